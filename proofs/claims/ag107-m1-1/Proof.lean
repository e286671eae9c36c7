import JvmDerived
import JvmDerived.Pilot.@@N@@Statement
import JvmDerived.Pilot.@@N@@Code
set_option linter.unusedVariables false
set_option linter.unusedSimpArgs false
namespace Jvm.Pilot.@@N@@
open Jvm Jvm.ClassFile Sem Op Lib Jvm.Free Jvm.Stand Jvm.LawKit Jvm.RoadKit Bundle Jvm.Pilot.@@N@@.Jvm.D
/-! OWN KIT: the walk's steps in one form: 'own_A' where the run stands, 'own_E' that it ends as G says. -/
def own_E (p : Program) (e : Env) (below : List Frame) (G : Outcome → State → Prop) (A : State) : Prop := ∃ s₂ o, Steps p.tables e below A s₂ ∧ s₂.status = .running ∧ Ended s₂ below o ∧ G o s₂
def own_A (l : Launch) (Z : State) (own : String) (cb : ByteArray) (ml n0 : Nat) (p : Program) (e : Env) (R : Room) (s : State) (m : MethodId) (args : Array Value) (below : List Frame) (meth : Method) (c : Code) (T : State) (h : Heap) (locs : List Loc) (cells slots : Nat) : Prop :=
  Stand p l e R s m args below meth c T locs cells slots ∧ p.tables.exec = Jvm.exec ∧ Z.Warmed39 s.vm ∧ c.code = cb ∧ c.maxLocals = ml ∧ s.vm.findClass own = some m.cls ∧ T.heap = h ∧ Fr n0 locs ∧ n0 ≤ h.size ∧ meth.locks = false
def own_G (R : Room) (s : State) (n0 : Nat) (Q : Option Value → Heap → Prop) (o : Outcome) (U : State) : Prop := ∃ v L, o = .returned v ∧ (Q v U.heap ∧ Fr n0 L ∧ n0 ≤ U.heap.size) ∧ FrameEnd s o U L R.cells R.slots
def own_Con (l : Launch) (Z : State) (y : MethodName) (cb : ByteArray) (ml : Nat) (ret : Option FieldType) (rm : Room) (as' : Array Value) (h0 : Heap) (n0 : Nat) (Q : Option Value → Heap → Prop) : Prop :=
  ∀ ws, MetFree l y (head1 (Jvm.Cond.code y cb ml ret :: ws) rm) (fun a U => a = as' ∧ Z.Warmed39 U.vm ∧ U.heap = h0) (fun _ _ _ _ _ => True) (fun _ U o U' => ∃ v L, o = .returned v ∧ (Q v U'.heap ∧ Fr n0 L ∧ n0 ≤ U'.heap.size) ∧ FrameEnd U o U' L rm.cells rm.slots)
theorem own_b255 (x : Int32) : x &&& 255 = x.toInt8.toInt32 &&& 255 := by
  apply Int32.toBitVec_inj.mp
  rw [Int32.toBitVec_and, Int32.toBitVec_and]
  show x.toBitVec &&& (BitVec.ofNat 32 255) = (x.toBitVec.signExtend 8).signExtend 32 &&& (BitVec.ofNat 32 255)
  apply BitVec.eq_of_getLsbD_eq
  intro i hi
  rw [BitVec.getLsbD_and, BitVec.getLsbD_and, BitVec.getLsbD_signExtend, BitVec.getLsbD_signExtend]
  by_cases h : i < 8
  · simp [h, hi]
  · have : ((BitVec.ofNat 32 255)).getLsbD i = false := by
      have h2 : 8 ≤ i := by omega
      have : ((BitVec.ofNat 32 255)).getLsbD i = Nat.testBit 255 i := by simp [BitVec.getLsbD]
      rw [this]; exact Nat.testBit_lt_two_pow (Nat.lt_of_lt_of_le (by decide : 255 < 2^8) (Nat.pow_le_pow_right (by decide) h2))
    simp [this]
theorem own_lremE (x y : Int64) : x - (x / y) * y = x % y := by
  apply Int64.toInt_inj.mp
  have h1 := Int64.le_toInt (x % y)
  have h2 := Int64.toInt_lt (x % y)
  rw [Int64.toInt_sub, Int64.toInt_mul, Int64.toInt_div, Int.bmod_mul_bmod, Int.sub_bmod_bmod, Int.mul_comm (x.toInt.tdiv y.toInt), ← Int.tmod_def, ← Int64.toInt_mod]
  exact Int.bmod_eq_of_le_mul_two (by omega) (by omega)
theorem own_addc (x a b c : Int32) (h : a + b = c) : (x + a) + b = x + c := by rw [Int32.add_assoc, h]
theorem own_nb (t : Int32) : nar .byte (t.toInt8.toInt32) = t.toInt8.toInt32 := by
  show (t.toInt8.toInt32).toInt8.toInt32 = t.toInt8.toInt32
  simp
section OwnKit
variable {l : Launch} {Z : State} {a0 : Array Value} {own : String} {cb : ByteArray} {ml n0 : Nat} {p : Program} {e : Env} {R : Room} {s : State} {m : MethodId} {args : Array Value} {below : List Frame} {meth : Method} {c : Code} {T : State} {h h' : Heap} {locs : List Loc} {cells slots : Nat} {G : Outcome → State → Prop} {pc pc' : Nat} {Ls Ls' : Array Slot} {S : List Value}
theorem own_go {A B : State} (h : ∀ t, Steps p.tables e below B t → Steps p.tables e below A t) (k : own_E p e below G B) : own_E p e below G A := by
  obtain ⟨s₂, o, h1, r⟩ := k; exact ⟨s₂, o, h _ h1, r⟩
theorem own_enter {y : MethodName} {ret : Option FieldType} {as' : Array Value} {h0 : Heap} {Q : Option Value → Heap → Prop} (hpl : plainFor y = true) (hsz : n0 ≤ h0.size) (hef : ∀ m, entryFrame m as' ml = mkF m 0 Ls [])
    (k : ∀ p e s m below meth c T, own_A l Z y.cls cb ml n0 p e R s m as' below meth c T h0 [] 0 0 → meth.sig.returnType = ret → meth.name = y.name → own_E p e below (own_G R s n0 Q) (T.setTop (mkF m 0 Ls []))) : own_Con l Z y cb ml ret R as' h0 n0 Q := by
  intro ws
  refine MetFree.of_bodySF hpl hisR ?_
  intro p e s m args below meth c s₁ Bd hml0 hP hK
  obtain ⟨rfl, hZ, hh⟩ := hP
  have e0 : s₁.heap = h0 := by rw [← hh, Bd.state]; rfl
  have K := k p e s m below meth c s₁ ⟨Stand.of_body Bd, Bd.exec, hZ, Bd.bytes, hml0, findClass_of_methodNamed Bd.named, e0, Fr.nil n0, hsz, Bd.notSynchronized⟩ Bd.returns (name_of_methodNamed Bd.named Bd.method).1
  obtain ⟨s₂, o, h1, h2, h3, h4⟩ := K
  exact ⟨s₂, o, castTop (hef m) h1, h2, h3, h4⟩
theorem own_iret (X : own_A l Z own cb ml n0 p e R s m args below meth c T h locs cells slots) {t : FieldType} {z w : Int32} {Q : Option Value → Heap → Prop} (hr : meth.sig.returnType = some t) (ht : t = .int ∨ t = .boolean ∨ t = .byte ∨ t = .char ∨ t = .short) (hd : decode cb pc = .ok (.ireturn, 1)) (hz : nar t z = w) (hc : cells ≤ R.cells) (hs : slots ≤ R.slots) (hQ : Q (some (.int w)) h) :
    own_E p e below (own_G R s n0 Q) (T.setTop (mkF m pc Ls (.int z :: S))) := by
  obtain ⟨X, hx, hZ, hby, hml, hown, rfl, N, hsz, hlk⟩ := X
  subst hz
  obtain ⟨fs, hl, hrun, hended, hW, hsame⟩ := X.leave (v := some (.int (nar t z))) (fun q => by rw [hr] at q; cases q) hlk
  refine ⟨_, _, ?_, hrun, hended, _, locs, rfl, ⟨hQ, N, hsz⟩, ⟨_, rfl⟩, hW, hsame.mono hc hs⟩
  rcases ht with rfl | ht
  · exact retOut X hx hr rfl (Or.inl ⟨rfl, Or.inl rfl, z, rfl⟩) (hb hby hd) hl
  · exact retN X hx hr ht (hb hby hd) hl
theorem own_lret (X : own_A l Z own cb ml n0 p e R s m args below meth c T h locs cells slots) {z : Int64} {Q : Option Value → Heap → Prop} (hr : meth.sig.returnType = some .long) (hd : decode cb pc = .ok (.lreturn, 1)) (hc : cells ≤ R.cells) (hs : slots ≤ R.slots) (hQ : Q (some (.long z)) h) :
    own_E p e below (own_G R s n0 Q) (T.setTop (mkF m pc Ls (.long z :: S))) := by
  obtain ⟨X, hx, hZ, hby, hml, hown, rfl, N, hsz, hlk⟩ := X
  obtain ⟨fs, hl, hrun, hended, hW, hsame⟩ := X.leave (v := some (.long z)) (fun q => by rw [hr] at q; cases q) hlk
  exact ⟨_, _, retOut X hx hr rfl (Or.inr (Or.inl ⟨rfl, rfl, z, rfl⟩)) (hb hby hd) hl, hrun, hended, _, locs, rfl, ⟨hQ, N, hsz⟩, ⟨_, rfl⟩, hW, hsame.mono hc hs⟩
theorem own_aret (X : own_A l Z own cb ml n0 p e R s m args below meth c T h locs cells slots) {t : FieldType} {v : Value} {Q : Option Value → Heap → Prop} (hr : meth.sig.returnType = some t) (ht : t.isReference = true) (hv : v.isRef = true) (hn : narrow t v = v) (hd : decode cb pc = .ok (.areturn, 1)) (hc : cells ≤ R.cells) (hs : slots ≤ R.slots) (hQ : Q (some v) h) :
    own_E p e below (own_G R s n0 Q) (T.setTop (mkF m pc Ls (v :: S))) := by
  obtain ⟨X, hx, hZ, hby, hml, hown, rfl, N, hsz, hlk⟩ := X
  obtain ⟨fs, hl, hrun, hended, hW, hsame⟩ := X.leave (v := some v) (fun q => by rw [hr] at q; cases q) hlk
  exact ⟨_, _, retOut X hx hr hn (Or.inr (Or.inr (Or.inr (Or.inr ⟨rfl, ht, hv⟩)))) (hb hby hd) hl, hrun, hended, _, locs, rfl, ⟨hQ, N, hsz⟩, ⟨_, rfl⟩, hW, hsame.mono hc hs⟩
theorem own_vret (X : own_A l Z own cb ml n0 p e R s m args below meth c T h locs cells slots) {Q : Option Value → Heap → Prop} (hr : meth.sig.returnType = none) (hd : decode cb pc = .ok (.return_, 1)) (hc : cells ≤ R.cells) (hs : slots ≤ R.slots) (hQ : Q none h) :
    own_E p e below (own_G R s n0 Q) (T.setTop (mkF m pc Ls [])) := by
  obtain ⟨X, hx, hZ, hby, hml, hown, rfl, N, hsz, hlk⟩ := X
  obtain ⟨fs, hl, hrun, hended, hW, hsame⟩ := X.leave (v := none) (fun _ => rfl) hlk
  exact ⟨_, _, X.returnOut hx hr (hb hby hd) hl, hrun, hended, _, locs, rfl, ⟨hQ, N, hsz⟩, ⟨_, rfl⟩, hW, hsame.mono hc hs⟩
theorem own_iloadN (X : own_A l Z own cb ml n0 p e R s m args below meth c T h locs cells slots) {i : Fin 4} {v : Int32} (hd : decode cb pc = .ok (.iload_n i, 1)) (hp : pc + 1 = pc') (hl : Ls[i.val]? = some (.val (.int v))) (k : own_E p e below G (T.setTop (mkF m pc' Ls (.int v :: S)))) : own_E p e below G (T.setTop (mkF m pc Ls S)) := by
  subst hp; exact own_go (fun _ => XS.iloadN X.1.here X.2.1 rfl (hb X.2.2.2.1 hd) hl) k
theorem own_iload (X : own_A l Z own cb ml n0 p e R s m args below meth c T h locs cells slots) {i : Nat} {v : Int32} (hd : decode cb pc = .ok (.iload i, 2)) (hp : pc + 2 = pc') (hl : Ls[i]? = some (.val (.int v))) (k : own_E p e below G (T.setTop (mkF m pc' Ls (.int v :: S)))) : own_E p e below G (T.setTop (mkF m pc Ls S)) := by
  subst hp; exact own_go (fun _ => XS.iload X.1.here X.2.1 rfl (hb X.2.2.2.1 hd) hl) k
theorem own_istoreN (X : own_A l Z own cb ml n0 p e R s m args below meth c T h locs cells slots) {i : Fin 4} {x y : Int32} (hd : decode cb pc = .ok (.istore_n i, 1)) (hp : pc + 1 = pc') (hv : x = y) (hl : storeLocals Ls i.val (.int y) = some Ls') (k : own_E p e below G (T.setTop (mkF m pc' Ls' S))) : own_E p e below G (T.setTop (mkF m pc Ls (.int x :: S))) := by
  subst hp; subst hv; exact own_go (fun _ => XS.istoreN X.1.here X.2.1 rfl (hb X.2.2.2.1 hd) rfl hl) k
theorem own_istore (X : own_A l Z own cb ml n0 p e R s m args below meth c T h locs cells slots) {i : Nat} {x y : Int32} (hd : decode cb pc = .ok (.istore i, 2)) (hp : pc + 2 = pc') (hv : x = y) (hl : storeLocals Ls i (.int y) = some Ls') (k : own_E p e below G (T.setTop (mkF m pc' Ls' S))) : own_E p e below G (T.setTop (mkF m pc Ls (.int x :: S))) := by
  subst hp; subst hv; exact own_go (fun _ => XS.istore X.1.here X.2.1 rfl (hb X.2.2.2.1 hd) rfl hl) k
theorem own_lloadN (X : own_A l Z own cb ml n0 p e R s m args below meth c T h locs cells slots) {i : Fin 4} {v : Int64} (hd : decode cb pc = .ok (.lload_n i, 1)) (hp : pc + 1 = pc') (hl : Ls[i.val]? = some (.val (.long v))) (k : own_E p e below G (T.setTop (mkF m pc' Ls (.long v :: S)))) : own_E p e below G (T.setTop (mkF m pc Ls S)) := by
  subst hp; exact own_go (fun _ => XS.lloadN X.1.here X.2.1 rfl (hb X.2.2.2.1 hd) hl) k
theorem own_lload (X : own_A l Z own cb ml n0 p e R s m args below meth c T h locs cells slots) {i : Nat} {v : Int64} (hd : decode cb pc = .ok (.lload i, 2)) (hp : pc + 2 = pc') (hl : Ls[i]? = some (.val (.long v))) (k : own_E p e below G (T.setTop (mkF m pc' Ls (.long v :: S)))) : own_E p e below G (T.setTop (mkF m pc Ls S)) := by
  subst hp; exact own_go (fun _ => XS.lload X.1.here X.2.1 rfl (hb X.2.2.2.1 hd) hl) k
theorem own_lstoreN (X : own_A l Z own cb ml n0 p e R s m args below meth c T h locs cells slots) {i : Fin 4} {x y : Int64} (hd : decode cb pc = .ok (.lstore_n i, 1)) (hp : pc + 1 = pc') (hv : x = y) (hl : storeLocals Ls i.val (.long y) = some Ls') (k : own_E p e below G (T.setTop (mkF m pc' Ls' S))) : own_E p e below G (T.setTop (mkF m pc Ls (.long x :: S))) := by
  subst hp; subst hv; exact own_go (fun _ => XS.lstoreN X.1.here X.2.1 rfl (hb X.2.2.2.1 hd) rfl hl) k
theorem own_lstore (X : own_A l Z own cb ml n0 p e R s m args below meth c T h locs cells slots) {i : Nat} {x y : Int64} (hd : decode cb pc = .ok (.lstore i, 2)) (hp : pc + 2 = pc') (hv : x = y) (hl : storeLocals Ls i (.long y) = some Ls') (k : own_E p e below G (T.setTop (mkF m pc' Ls' S))) : own_E p e below G (T.setTop (mkF m pc Ls (.long x :: S))) := by
  subst hp; subst hv; exact own_go (fun _ => XS.lstore X.1.here X.2.1 rfl (hb X.2.2.2.1 hd) rfl hl) k
theorem own_aloadN (X : own_A l Z own cb ml n0 p e R s m args below meth c T h locs cells slots) {i : Fin 4} {v : Value} (hd : decode cb pc = .ok (.aload_n i, 1)) (hp : pc + 1 = pc') (hl : Ls[i.val]? = some (.val v)) (hr : v.isRef = true) (k : own_E p e below G (T.setTop (mkF m pc' Ls (v :: S)))) : own_E p e below G (T.setTop (mkF m pc Ls S)) := by
  subst hp; exact own_go (fun _ => XS.aloadN X.1.here X.2.1 rfl (hb X.2.2.2.1 hd) hl hr) k
theorem own_aload (X : own_A l Z own cb ml n0 p e R s m args below meth c T h locs cells slots) {i : Nat} {v : Value} (hd : decode cb pc = .ok (.aload i, 2)) (hp : pc + 2 = pc') (hl : Ls[i]? = some (.val v)) (hr : v.isRef = true) (k : own_E p e below G (T.setTop (mkF m pc' Ls (v :: S)))) : own_E p e below G (T.setTop (mkF m pc Ls S)) := by
  subst hp; exact own_go (fun _ => XS.aload X.1.here X.2.1 rfl (hb X.2.2.2.1 hd) hl hr) k
theorem own_astoreN (X : own_A l Z own cb ml n0 p e R s m args below meth c T h locs cells slots) {i : Fin 4} {v : Value} (hd : decode cb pc = .ok (.astore_n i, 1)) (hp : pc + 1 = pc') (hr : v.isRef = true) (hl : storeLocals Ls i.val v = some Ls') (k : own_E p e below G (T.setTop (mkF m pc' Ls' S))) : own_E p e below G (T.setTop (mkF m pc Ls (v :: S))) := by
  subst hp; exact own_go (fun _ => XS.astoreN X.1.here X.2.1 rfl (hb X.2.2.2.1 hd) rfl hr hl) k
theorem own_astore (X : own_A l Z own cb ml n0 p e R s m args below meth c T h locs cells slots) {i : Nat} {v : Value} (hd : decode cb pc = .ok (.astore i, 2)) (hp : pc + 2 = pc') (hr : v.isRef = true) (hl : storeLocals Ls i v = some Ls') (k : own_E p e below G (T.setTop (mkF m pc' Ls' S))) : own_E p e below G (T.setTop (mkF m pc Ls (v :: S))) := by
  subst hp; exact own_go (fun _ => XS.astore X.1.here X.2.1 rfl (hb X.2.2.2.1 hd) rfl hr hl) k
theorem own_iconst (X : own_A l Z own cb ml n0 p e R s m args below meth c T h locs cells slots) {i : Int} {z : Int32} (hd : decode cb pc = .ok (.iconst i, 1)) (hp : pc + 1 = pc') (hz : Int32.ofInt i = z) (k : own_E p e below G (T.setTop (mkF m pc' Ls (.int z :: S)))) : own_E p e below G (T.setTop (mkF m pc Ls S)) := by
  subst hp; subst hz; exact own_go (fun _ => XS.iconst X.1.here X.2.1 rfl (hb X.2.2.2.1 hd)) k
theorem own_bipush (X : own_A l Z own cb ml n0 p e R s m args below meth c T h locs cells slots) {i : Int} {z : Int32} (hd : decode cb pc = .ok (.bipush i, 2)) (hp : pc + 2 = pc') (hz : (Int8.ofInt i).toInt32 = z) (k : own_E p e below G (T.setTop (mkF m pc' Ls (.int z :: S)))) : own_E p e below G (T.setTop (mkF m pc Ls S)) := by
  subst hp; subst hz; exact own_go (fun _ => XS.bipush X.1.here X.2.1 rfl (hb X.2.2.2.1 hd)) k
theorem own_sipush (X : own_A l Z own cb ml n0 p e R s m args below meth c T h locs cells slots) {i : Int} {z : Int32} (hd : decode cb pc = .ok (.sipush i, 3)) (hp : pc + 3 = pc') (hz : (Int16.ofInt i).toInt32 = z) (k : own_E p e below G (T.setTop (mkF m pc' Ls (.int z :: S)))) : own_E p e below G (T.setTop (mkF m pc Ls S)) := by
  subst hp; subst hz; exact own_go (fun _ => XS.sipush X.1.here X.2.1 rfl (hb X.2.2.2.1 hd)) k
theorem own_lconst (X : own_A l Z own cb ml n0 p e R s m args below meth c T h locs cells slots) {i : Fin 2} {z : Int64} (hd : decode cb pc = .ok (.lconst i, 1)) (hp : pc + 1 = pc') (hz : Int64.ofNat i = z) (k : own_E p e below G (T.setTop (mkF m pc' Ls (.long z :: S)))) : own_E p e below G (T.setTop (mkF m pc Ls S)) := by
  subst hp; subst hz; exact own_go (fun _ => XS.lconst X.1.here X.2.1 rfl (hb X.2.2.2.1 hd)) k
theorem own_anull (X : own_A l Z own cb ml n0 p e R s m args below meth c T h locs cells slots)  (hd : decode cb pc = .ok (.aconst_null, 1)) (hp : pc + 1 = pc') (k : own_E p e below G (T.setTop (mkF m pc' Ls (.null :: S)))) : own_E p e below G (T.setTop (mkF m pc Ls S)) := by
  subst hp; exact own_go (fun _ => XS.aconstNull X.1.here X.2.1 rfl (hb X.2.2.2.1 hd)) k
theorem own_iadd (X : own_A l Z own cb ml n0 p e R s m args below meth c T h locs cells slots) {x y z : Int32} (hd : decode cb pc = .ok (.iadd, 1)) (hp : pc + 1 = pc') (hz : x + y = z) (k : own_E p e below G (T.setTop (mkF m pc' Ls (.int z :: S)))) : own_E p e below G (T.setTop (mkF m pc Ls (.int y :: .int x :: S))) := by
  subst hp; subst hz; exact own_go (fun _ => XS.iadd X.1.here X.2.1 rfl (hb X.2.2.2.1 hd) rfl) k
theorem own_isub (X : own_A l Z own cb ml n0 p e R s m args below meth c T h locs cells slots) {x y z : Int32} (hd : decode cb pc = .ok (.isub, 1)) (hp : pc + 1 = pc') (hz : x - y = z) (k : own_E p e below G (T.setTop (mkF m pc' Ls (.int z :: S)))) : own_E p e below G (T.setTop (mkF m pc Ls (.int y :: .int x :: S))) := by
  subst hp; subst hz; exact own_go (fun _ => XS.isub X.1.here X.2.1 rfl (hb X.2.2.2.1 hd) rfl) k
theorem own_imul (X : own_A l Z own cb ml n0 p e R s m args below meth c T h locs cells slots) {x y z : Int32} (hd : decode cb pc = .ok (.imul, 1)) (hp : pc + 1 = pc') (hz : x * y = z) (k : own_E p e below G (T.setTop (mkF m pc' Ls (.int z :: S)))) : own_E p e below G (T.setTop (mkF m pc Ls (.int y :: .int x :: S))) := by
  subst hp; subst hz; exact own_go (fun _ => XS.imul X.1.here X.2.1 rfl (hb X.2.2.2.1 hd) rfl) k
theorem own_iand (X : own_A l Z own cb ml n0 p e R s m args below meth c T h locs cells slots) {x y z : Int32} (hd : decode cb pc = .ok (.iand, 1)) (hp : pc + 1 = pc') (hz : x &&& y = z) (k : own_E p e below G (T.setTop (mkF m pc' Ls (.int z :: S)))) : own_E p e below G (T.setTop (mkF m pc Ls (.int y :: .int x :: S))) := by
  subst hp; subst hz; exact own_go (fun _ => XS.iand X.1.here X.2.1 rfl (hb X.2.2.2.1 hd) rfl) k
theorem own_ior (X : own_A l Z own cb ml n0 p e R s m args below meth c T h locs cells slots) {x y z : Int32} (hd : decode cb pc = .ok (.ior, 1)) (hp : pc + 1 = pc') (hz : x ||| y = z) (k : own_E p e below G (T.setTop (mkF m pc' Ls (.int z :: S)))) : own_E p e below G (T.setTop (mkF m pc Ls (.int y :: .int x :: S))) := by
  subst hp; subst hz; exact own_go (fun _ => XS.ior X.1.here X.2.1 rfl (hb X.2.2.2.1 hd) rfl) k
theorem own_ixor (X : own_A l Z own cb ml n0 p e R s m args below meth c T h locs cells slots) {x y z : Int32} (hd : decode cb pc = .ok (.ixor, 1)) (hp : pc + 1 = pc') (hz : x ^^^ y = z) (k : own_E p e below G (T.setTop (mkF m pc' Ls (.int z :: S)))) : own_E p e below G (T.setTop (mkF m pc Ls (.int y :: .int x :: S))) := by
  subst hp; subst hz; exact own_go (fun _ => XS.ixor X.1.here X.2.1 rfl (hb X.2.2.2.1 hd) rfl) k
theorem own_ishl (X : own_A l Z own cb ml n0 p e R s m args below meth c T h locs cells slots) {x y z : Int32} (hd : decode cb pc = .ok (.ishl, 1)) (hp : pc + 1 = pc') (hz : x <<< (y &&& 31) = z) (k : own_E p e below G (T.setTop (mkF m pc' Ls (.int z :: S)))) : own_E p e below G (T.setTop (mkF m pc Ls (.int y :: .int x :: S))) := by
  subst hp; subst hz; exact own_go (fun _ => XS.ishl X.1.here X.2.1 rfl (hb X.2.2.2.1 hd) rfl) k
theorem own_ishr (X : own_A l Z own cb ml n0 p e R s m args below meth c T h locs cells slots) {x y z : Int32} (hd : decode cb pc = .ok (.ishr, 1)) (hp : pc + 1 = pc') (hz : x >>> (y &&& 31) = z) (k : own_E p e below G (T.setTop (mkF m pc' Ls (.int z :: S)))) : own_E p e below G (T.setTop (mkF m pc Ls (.int y :: .int x :: S))) := by
  subst hp; subst hz; exact own_go (fun _ => XS.ishr X.1.here X.2.1 rfl (hb X.2.2.2.1 hd) rfl) k
theorem own_iushr (X : own_A l Z own cb ml n0 p e R s m args below meth c T h locs cells slots) {x y z : Int32} (hd : decode cb pc = .ok (.iushr, 1)) (hp : pc + 1 = pc') (hz : (x.toUInt32 >>> (y &&& 31).toUInt32).toInt32 = z) (k : own_E p e below G (T.setTop (mkF m pc' Ls (.int z :: S)))) : own_E p e below G (T.setTop (mkF m pc Ls (.int y :: .int x :: S))) := by
  subst hp; subst hz; exact own_go (fun _ => XS.iushr X.1.here X.2.1 rfl (hb X.2.2.2.1 hd) rfl) k
theorem own_ladd (X : own_A l Z own cb ml n0 p e R s m args below meth c T h locs cells slots) {x y z : Int64} (hd : decode cb pc = .ok (.ladd, 1)) (hp : pc + 1 = pc') (hz : x + y = z) (k : own_E p e below G (T.setTop (mkF m pc' Ls (.long z :: S)))) : own_E p e below G (T.setTop (mkF m pc Ls (.long y :: .long x :: S))) := by
  subst hp; subst hz; exact own_go (fun _ => XS.ladd X.1.here X.2.1 rfl (hb X.2.2.2.1 hd) rfl) k
theorem own_lsub (X : own_A l Z own cb ml n0 p e R s m args below meth c T h locs cells slots) {x y z : Int64} (hd : decode cb pc = .ok (.lsub, 1)) (hp : pc + 1 = pc') (hz : x - y = z) (k : own_E p e below G (T.setTop (mkF m pc' Ls (.long z :: S)))) : own_E p e below G (T.setTop (mkF m pc Ls (.long y :: .long x :: S))) := by
  subst hp; subst hz; exact own_go (fun _ => XS.lsub X.1.here X.2.1 rfl (hb X.2.2.2.1 hd) rfl) k
theorem own_lmul (X : own_A l Z own cb ml n0 p e R s m args below meth c T h locs cells slots) {x y z : Int64} (hd : decode cb pc = .ok (.lmul, 1)) (hp : pc + 1 = pc') (hz : x * y = z) (k : own_E p e below G (T.setTop (mkF m pc' Ls (.long z :: S)))) : own_E p e below G (T.setTop (mkF m pc Ls (.long y :: .long x :: S))) := by
  subst hp; subst hz; exact own_go (fun _ => XS.lmul X.1.here X.2.1 rfl (hb X.2.2.2.1 hd) rfl) k
theorem own_land (X : own_A l Z own cb ml n0 p e R s m args below meth c T h locs cells slots) {x y z : Int64} (hd : decode cb pc = .ok (.land, 1)) (hp : pc + 1 = pc') (hz : x &&& y = z) (k : own_E p e below G (T.setTop (mkF m pc' Ls (.long z :: S)))) : own_E p e below G (T.setTop (mkF m pc Ls (.long y :: .long x :: S))) := by
  subst hp; subst hz; exact own_go (fun _ => XS.land X.1.here X.2.1 rfl (hb X.2.2.2.1 hd) rfl) k
theorem own_lor (X : own_A l Z own cb ml n0 p e R s m args below meth c T h locs cells slots) {x y z : Int64} (hd : decode cb pc = .ok (.lor, 1)) (hp : pc + 1 = pc') (hz : x ||| y = z) (k : own_E p e below G (T.setTop (mkF m pc' Ls (.long z :: S)))) : own_E p e below G (T.setTop (mkF m pc Ls (.long y :: .long x :: S))) := by
  subst hp; subst hz; exact own_go (fun _ => XS.lor X.1.here X.2.1 rfl (hb X.2.2.2.1 hd) rfl) k
theorem own_lxor (X : own_A l Z own cb ml n0 p e R s m args below meth c T h locs cells slots) {x y z : Int64} (hd : decode cb pc = .ok (.lxor, 1)) (hp : pc + 1 = pc') (hz : x ^^^ y = z) (k : own_E p e below G (T.setTop (mkF m pc' Ls (.long z :: S)))) : own_E p e below G (T.setTop (mkF m pc Ls (.long y :: .long x :: S))) := by
  subst hp; subst hz; exact own_go (fun _ => XS.lxor X.1.here X.2.1 rfl (hb X.2.2.2.1 hd) rfl) k
theorem own_lshl (X : own_A l Z own cb ml n0 p e R s m args below meth c T h locs cells slots) {x z : Int64} {y : Int32} (hd : decode cb pc = .ok (.lshl, 1)) (hp : pc + 1 = pc') (hz : x <<< (y &&& 0x3f).toInt64 = z) (k : own_E p e below G (T.setTop (mkF m pc' Ls (.long z :: S)))) : own_E p e below G (T.setTop (mkF m pc Ls (.int y :: .long x :: S))) := by
  subst hp; subst hz; exact own_go (fun _ => XS.lshl X.1.here X.2.1 rfl (hb X.2.2.2.1 hd) rfl) k
theorem own_lshr (X : own_A l Z own cb ml n0 p e R s m args below meth c T h locs cells slots) {x z : Int64} {y : Int32} (hd : decode cb pc = .ok (.lshr, 1)) (hp : pc + 1 = pc') (hz : x >>> (y &&& 0x3f).toInt64 = z) (k : own_E p e below G (T.setTop (mkF m pc' Ls (.long z :: S)))) : own_E p e below G (T.setTop (mkF m pc Ls (.int y :: .long x :: S))) := by
  subst hp; subst hz; exact own_go (fun _ => XS.lshr X.1.here X.2.1 rfl (hb X.2.2.2.1 hd) rfl) k
theorem own_lushr (X : own_A l Z own cb ml n0 p e R s m args below meth c T h locs cells slots) {x z : Int64} {y : Int32} (hd : decode cb pc = .ok (.lushr, 1)) (hp : pc + 1 = pc') (hz : (x.toUInt64 >>> (y &&& 0x3f).toInt64.toUInt64).toInt64 = z) (k : own_E p e below G (T.setTop (mkF m pc' Ls (.long z :: S)))) : own_E p e below G (T.setTop (mkF m pc Ls (.int y :: .long x :: S))) := by
  subst hp; subst hz; exact own_go (fun _ => XS.lushr X.1.here X.2.1 rfl (hb X.2.2.2.1 hd) rfl) k
theorem own_idiv (X : own_A l Z own cb ml n0 p e R s m args below meth c T h locs cells slots) {x y z : Int32} (hd : decode cb pc = .ok (.idiv, 1)) (hp : pc + 1 = pc') (hy : y ≠ 0) (hz : x / y = z) (k : own_E p e below G (T.setTop (mkF m pc' Ls (.int z :: S)))) : own_E p e below G (T.setTop (mkF m pc Ls (.int y :: .int x :: S))) := by
  subst hp; subst hz; exact own_go (fun _ => XS.idiv X.1.here X.2.1 rfl (hb X.2.2.2.1 hd) rfl hy) k
theorem own_irem (X : own_A l Z own cb ml n0 p e R s m args below meth c T h locs cells slots) {x y z : Int32} (hd : decode cb pc = .ok (.irem, 1)) (hp : pc + 1 = pc') (hy : y ≠ 0) (hz : x % y = z) (k : own_E p e below G (T.setTop (mkF m pc' Ls (.int z :: S)))) : own_E p e below G (T.setTop (mkF m pc Ls (.int y :: .int x :: S))) := by
  subst hp; subst hz; exact own_go (fun _ => iremM X.1 X.2.1 rfl (hb X.2.2.2.1 hd) rfl hy) k
theorem own_ldiv (X : own_A l Z own cb ml n0 p e R s m args below meth c T h locs cells slots) {x y z : Int64} (hd : decode cb pc = .ok (.ldiv, 1)) (hp : pc + 1 = pc') (hy : y ≠ 0) (hz : x / y = z) (k : own_E p e below G (T.setTop (mkF m pc' Ls (.long z :: S)))) : own_E p e below G (T.setTop (mkF m pc Ls (.long y :: .long x :: S))) := by
  subst hp; subst hz; exact own_go (fun _ => XS.ldiv X.1.here X.2.1 rfl (hb X.2.2.2.1 hd) rfl hy) k
theorem own_lrem (X : own_A l Z own cb ml n0 p e R s m args below meth c T h locs cells slots) {x y z : Int64} (hd : decode cb pc = .ok (.lrem, 1)) (hp : pc + 1 = pc') (hy : y ≠ 0) (hz : x - (x / y) * y = z) (k : own_E p e below G (T.setTop (mkF m pc' Ls (.long z :: S)))) : own_E p e below G (T.setTop (mkF m pc Ls (.long y :: .long x :: S))) := by
  subst hp; subst hz; exact own_go (fun _ => XS.lrem X.1.here X.2.1 rfl (hb X.2.2.2.1 hd) rfl hy) k
theorem own_ineg (X : own_A l Z own cb ml n0 p e R s m args below meth c T h locs cells slots) {x : Int32} {z : Int32} (hd : decode cb pc = .ok (.ineg, 1)) (hp : pc + 1 = pc') (hz : -x = z) (k : own_E p e below G (T.setTop (mkF m pc' Ls (.int z :: S)))) : own_E p e below G (T.setTop (mkF m pc Ls (.int x :: S))) := by
  subst hp; subst hz; exact own_go (fun _ => XS.ineg X.1.here X.2.1 rfl (hb X.2.2.2.1 hd) rfl) k
theorem own_lneg (X : own_A l Z own cb ml n0 p e R s m args below meth c T h locs cells slots) {x : Int64} {z : Int64} (hd : decode cb pc = .ok (.lneg, 1)) (hp : pc + 1 = pc') (hz : -x = z) (k : own_E p e below G (T.setTop (mkF m pc' Ls (.long z :: S)))) : own_E p e below G (T.setTop (mkF m pc Ls (.long x :: S))) := by
  subst hp; subst hz; exact own_go (fun _ => XS.lneg X.1.here X.2.1 rfl (hb X.2.2.2.1 hd) rfl) k
theorem own_i2l (X : own_A l Z own cb ml n0 p e R s m args below meth c T h locs cells slots) {x : Int32} {z : Int64} (hd : decode cb pc = .ok (.i2l, 1)) (hp : pc + 1 = pc') (hz : x.toInt64 = z) (k : own_E p e below G (T.setTop (mkF m pc' Ls (.long z :: S)))) : own_E p e below G (T.setTop (mkF m pc Ls (.int x :: S))) := by
  subst hp; subst hz; exact own_go (fun _ => XS.i2l X.1.here X.2.1 rfl (hb X.2.2.2.1 hd) rfl) k
theorem own_l2i (X : own_A l Z own cb ml n0 p e R s m args below meth c T h locs cells slots) {x : Int64} {z : Int32} (hd : decode cb pc = .ok (.l2i, 1)) (hp : pc + 1 = pc') (hz : x.toInt32 = z) (k : own_E p e below G (T.setTop (mkF m pc' Ls (.int z :: S)))) : own_E p e below G (T.setTop (mkF m pc Ls (.long x :: S))) := by
  subst hp; subst hz; exact own_go (fun _ => XS.l2i X.1.here X.2.1 rfl (hb X.2.2.2.1 hd) rfl) k
theorem own_i2b (X : own_A l Z own cb ml n0 p e R s m args below meth c T h locs cells slots) {x : Int32} {z : Int32} (hd : decode cb pc = .ok (.i2b, 1)) (hp : pc + 1 = pc') (hz : x.toInt8.toInt32 = z) (k : own_E p e below G (T.setTop (mkF m pc' Ls (.int z :: S)))) : own_E p e below G (T.setTop (mkF m pc Ls (.int x :: S))) := by
  subst hp; subst hz; exact own_go (fun _ => XS.i2b X.1.here X.2.1 rfl (hb X.2.2.2.1 hd) rfl) k
theorem own_i2s (X : own_A l Z own cb ml n0 p e R s m args below meth c T h locs cells slots) {x : Int32} {z : Int32} (hd : decode cb pc = .ok (.i2s, 1)) (hp : pc + 1 = pc') (hz : x.toInt16.toInt32 = z) (k : own_E p e below G (T.setTop (mkF m pc' Ls (.int z :: S)))) : own_E p e below G (T.setTop (mkF m pc Ls (.int x :: S))) := by
  subst hp; subst hz; exact own_go (fun _ => XS.i2s X.1.here X.2.1 rfl (hb X.2.2.2.1 hd) rfl) k
theorem own_i2c (X : own_A l Z own cb ml n0 p e R s m args below meth c T h locs cells slots) {x : Int32} {z : Int32} (hd : decode cb pc = .ok (.i2c, 1)) (hp : pc + 1 = pc') (hz : x.toUInt32.toUInt16.toUInt32.toInt32 = z) (k : own_E p e below G (T.setTop (mkF m pc' Ls (.int z :: S)))) : own_E p e below G (T.setTop (mkF m pc Ls (.int x :: S))) := by
  subst hp; subst hz; exact own_go (fun _ => XS.i2c X.1.here X.2.1 rfl (hb X.2.2.2.1 hd) rfl) k
theorem own_iinc (X : own_A l Z own cb ml n0 p e R s m args below meth c T h locs cells slots) {i : Nat} {cst : Int} {x z : Int32} (hd : decode cb pc = .ok (.iinc i cst, 3)) (hp : pc + 3 = pc') (hl : Ls[i]? = some (.val (.int x))) (hz : x + Int32.ofInt cst = z) (hl' : storeLocals Ls i (.int z) = some Ls') (k : own_E p e below G (T.setTop (mkF m pc' Ls' S))) : own_E p e below G (T.setTop (mkF m pc Ls S)) := by
  subst hp; subst hz; exact own_go (fun _ => XS.iinc X.1.here X.2.1 rfl (hb X.2.2.2.1 hd) hl hl') k
theorem own_dup (X : own_A l Z own cb ml n0 p e R s m args below meth c T h locs cells slots) {v : Value} (hd : decode cb pc = .ok (.dup, 1)) (hp : pc + 1 = pc') (hc : v.category = 1) (k : own_E p e below G (T.setTop (mkF m pc' Ls (v :: v :: S)))) : own_E p e below G (T.setTop (mkF m pc Ls (v :: S))) := by
  subst hp; exact own_go (fun _ => XS.dup X.1.here X.2.1 rfl (hb X.2.2.2.1 hd) rfl hc) k
theorem own_pop (X : own_A l Z own cb ml n0 p e R s m args below meth c T h locs cells slots) {v : Value} (hd : decode cb pc = .ok (.pop, 1)) (hp : pc + 1 = pc') (hc : v.category = 1) (k : own_E p e below G (T.setTop (mkF m pc' Ls S))) : own_E p e below G (T.setTop (mkF m pc Ls (v :: S))) := by
  subst hp; exact own_go (fun _ => XS.pop X.1.here X.2.1 rfl (hb X.2.2.2.1 hd) rfl hc) k
theorem own_goto (X : own_A l Z own cb ml n0 p e R s m args below meth c T h locs cells slots) {o : Int} (hd : decode cb pc = .ok (.goto o, 3)) (ho : 0 ≤ (pc : Int) + o) (hp : ((pc : Int) + o).toNat = pc') (k : own_E p e below G (T.setTop (mkF m pc' Ls S))) : own_E p e below G (T.setTop (mkF m pc Ls S)) :=
  own_go (fun _ => XS.goto X.1.here X.2.1 rfl rfl (hb X.2.2.2.1 hd) ho hp) k
theorem own_icmpY (X : own_A l Z own cb ml n0 p e R s m args below meth c T h locs cells slots) {cd : ClassFile.Cond} {o : Int} {x y : Int32} (hd : decode cb pc = .ok (.if_icmp cd o, 3)) (hc : if_icmp.holds cd x y = true) (ho : 0 ≤ (pc : Int) + o) (hp : ((pc : Int) + o).toNat = pc') (k : own_E p e below G (T.setTop (mkF m pc' Ls S))) : own_E p e below G (T.setTop (mkF m pc Ls (.int y :: .int x :: S))) :=
  own_go (fun _ => XS.icmpYes X.1.here X.2.1 rfl rfl (hb X.2.2.2.1 hd) rfl hc ho hp) k
theorem own_icmpN (X : own_A l Z own cb ml n0 p e R s m args below meth c T h locs cells slots) {cd : ClassFile.Cond} {o : Int} {x y : Int32} (hd : decode cb pc = .ok (.if_icmp cd o, 3)) (hc : if_icmp.holds cd x y = false) (hp : pc + 3 = pc') (k : own_E p e below G (T.setTop (mkF m pc' Ls S))) : own_E p e below G (T.setTop (mkF m pc Ls (.int y :: .int x :: S))) := by
  subst hp; exact own_go (fun _ => XS.icmpNo X.1.here X.2.1 rfl (hb X.2.2.2.1 hd) rfl hc) k
theorem own_ifY (X : own_A l Z own cb ml n0 p e R s m args below meth c T h locs cells slots) {cd : ClassFile.Cond} {o : Int} {x : Int32} (hd : decode cb pc = .ok (.ifCond cd o, 3)) (hc : if_icmp.holds cd x 0 = true) (ho : 0 ≤ (pc : Int) + o) (hp : ((pc : Int) + o).toNat = pc') (k : own_E p e below G (T.setTop (mkF m pc' Ls S))) : own_E p e below G (T.setTop (mkF m pc Ls (.int x :: S))) :=
  own_go (fun _ => XS.ifYes X.1.here X.2.1 rfl rfl (hb X.2.2.2.1 hd) rfl ((if0 _ _).trans hc) ho hp) k
theorem own_ifN (X : own_A l Z own cb ml n0 p e R s m args below meth c T h locs cells slots) {cd : ClassFile.Cond} {o : Int} {x : Int32} (hd : decode cb pc = .ok (.ifCond cd o, 3)) (hc : if_icmp.holds cd x 0 = false) (hp : pc + 3 = pc') (k : own_E p e below G (T.setTop (mkF m pc' Ls S))) : own_E p e below G (T.setTop (mkF m pc Ls (.int x :: S))) := by
  subst hp; exact own_go (fun _ => XS.ifNo X.1.here X.2.1 rfl (hb X.2.2.2.1 hd) rfl ((if0 _ _).trans hc)) k
theorem own_ljY (X : own_A l Z own cb ml n0 p e R s m args below meth c T h locs cells slots) {cd : ClassFile.Cond} {o : Int} {x y : Int64} {pc1 : Nat} (hd1 : decode cb pc = .ok (.lcmp, 1)) (h1 : pc + 1 = pc1) (hd : decode cb pc1 = .ok (.ifCond cd o, 3)) (hc : if_icmp.holds cd (lcmpW x y) 0 = true) (ho : 0 ≤ (pc1 : Int) + o) (hp : ((pc1 : Int) + o).toNat = pc') (k : own_E p e below G (T.setTop (mkF m pc' Ls S))) : own_E p e below G (T.setTop (mkF m pc Ls (.long y :: .long x :: S))) := by
  subst h1
  exact own_go (fun _ k => XS.lcmp X.1.here X.2.1 rfl (hb X.2.2.2.1 hd1) rfl (XS.ifYes X.1.here X.2.1 rfl rfl (hb X.2.2.2.1 hd) rfl ((if0 _ _).trans hc) ho hp k)) k
theorem own_ljN (X : own_A l Z own cb ml n0 p e R s m args below meth c T h locs cells slots) {cd : ClassFile.Cond} {o : Int} {x y : Int64} {pc1 : Nat} (hd1 : decode cb pc = .ok (.lcmp, 1)) (h1 : pc + 1 = pc1) (hd : decode cb pc1 = .ok (.ifCond cd o, 3)) (hc : if_icmp.holds cd (lcmpW x y) 0 = false) (hp : pc1 + 3 = pc') (k : own_E p e below G (T.setTop (mkF m pc' Ls S))) : own_E p e below G (T.setTop (mkF m pc Ls (.long y :: .long x :: S))) := by
  subst h1; subst hp
  exact own_go (fun _ k => XS.lcmp X.1.here X.2.1 rfl (hb X.2.2.2.1 hd1) rfl (XS.ifNo X.1.here X.2.1 rfl (hb X.2.2.2.1 hd) rfl ((if0 _ _).trans hc) k)) k
theorem own_tltL {x y : Int64} (q : x < y) : if_icmp.holds .lt (lcmpW x y) 0 = true ∧ if_icmp.holds .ge (lcmpW x y) 0 = false ∧ if_icmp.holds .gt (lcmpW y x) 0 = true ∧ if_icmp.holds .le (lcmpW y x) 0 = false :=
  ⟨(tlt ((lw_lt x y).mpr q)).1, (tlt ((lw_lt x y).mpr q)).2.1, (tlt ((lw_gt y x).mpr q)).2.2.1, (tlt ((lw_gt y x).mpr q)).2.2.2⟩
theorem own_fltL {x y : Int64} (q : ¬ x < y) : if_icmp.holds .lt (lcmpW x y) 0 = false ∧ if_icmp.holds .ge (lcmpW x y) 0 = true ∧ if_icmp.holds .gt (lcmpW y x) 0 = false ∧ if_icmp.holds .le (lcmpW y x) 0 = true :=
  ⟨(flt (fun z => q ((lw_lt x y).mp z))).1, (flt (fun z => q ((lw_lt x y).mp z))).2.1, (flt (fun z => q ((lw_gt y x).mp z))).2.2.1, (flt (fun z => q ((lw_gt y x).mp z))).2.2.2⟩
theorem own_teqL {x y : Int64} (q : x = y) : if_icmp.holds .eq (lcmpW x y) 0 = true ∧ if_icmp.holds .ne (lcmpW x y) 0 = false := teq ((lw_eq x y).mpr q)
theorem own_feqL {x y : Int64} (q : ¬ x = y) : if_icmp.holds .eq (lcmpW x y) 0 = false ∧ if_icmp.holds .ne (lcmpW x y) 0 = true := feq (fun z => q ((lw_eq x y).mp z))
theorem own_ifnullY (X : own_A l Z own cb ml n0 p e R s m args below meth c T h locs cells slots) {o : Int} (hd : decode cb pc = .ok (.ifnull o, 3)) (ho : 0 ≤ (pc : Int) + o) (hp : ((pc : Int) + o).toNat = pc') (k : own_E p e below G (T.setTop (mkF m pc' Ls S))) : own_E p e below G (T.setTop (mkF m pc Ls (.null :: S))) :=
  own_go (fun _ => XS.ifnullYes X.1.here X.2.1 rfl rfl (hb X.2.2.2.1 hd) rfl ho hp) k
theorem own_ifnullN (X : own_A l Z own cb ml n0 p e R s m args below meth c T h locs cells slots) {o : Int} {b : Addr} (hd : decode cb pc = .ok (.ifnull o, 3)) (hp : pc + 3 = pc') (k : own_E p e below G (T.setTop (mkF m pc' Ls S))) : own_E p e below G (T.setTop (mkF m pc Ls (.ref b :: S))) := by
  subst hp; exact own_go (fun _ => XS.ifnullNo X.1.here X.2.1 rfl (hb X.2.2.2.1 hd) rfl) k
theorem own_ldc (X : own_A l Z own cb ml n0 p e R s m args below meth c T h locs cells slots) {i : Nat} {v : Int32} (w : (Jvm.Cond.constant own i v).before a0 Z = true) (hd : decode cb pc = .ok (.ldc i, 2)) (hp : pc + 2 = pc') (k : own_E p e below G (T.setTop (mkF m pc' Ls (.int v :: S)))) : own_E p e below G (T.setTop (mkF m pc Ls S)) := by
  subst hp; exact own_go (X.1.ldcInt X.2.1 X.2.2.2.2.2.1 (mvT X.2.2.1 w) rfl (hb X.2.2.2.1 hd)) k
theorem own_ldc2 (X : own_A l Z own cb ml n0 p e R s m args below meth c T h locs cells slots) {i : Nat} {v : Int64} (w : (Jvm.Cond.constantLong own i v).before a0 Z = true) (hd : decode cb pc = .ok (.ldc2_w i, 3)) (hp : pc + 3 = pc') (k : own_E p e below G (T.setTop (mkF m pc' Ls (.long v :: S)))) : own_E p e below G (T.setTop (mkF m pc Ls S)) := by
  subst hp; exact own_go (X.1.ldc2Long X.2.1 X.2.2.2.2.2.1 (mvT X.2.2.1 w) rfl (hb X.2.2.2.1 hd)) k
theorem own_callS (X : own_A l Z own cb ml n0 p e R s m args below meth c T h locs cells slots) {y : MethodName} {cb' : ByteArray} {ml' : Nat} {ret' : Option FieldType} {rm : Room} {argsL st : List Value} {Q : Option Value → Heap → Prop} {i : Nat} (hC : own_Con l Z y cb' ml' ret' rm argsL.toArray h n0 Q)
    (w1 : (Jvm.Cond.methodLink own i y).before a0 Z = true) (w2 : (Jvm.Cond.static y).before a0 Z = true) (w3 : (Jvm.Cond.initialized y.cls).before a0 Z = true) (w4 : (Jvm.Cond.code y cb' ml' ret').before a0 Z = true) (hy : y.cls ≠ "java/lang/invoke/MethodHandle" ∧ y.cls ≠ "java/lang/invoke/VarHandle")
    (hf : rm.frames + 1 ≤ R.frames) (W : Nat) (hl : W + (ml' + 11) + rm.locals ≤ R.locals) (hls : Ls.size = ml) {ps : List FieldType} {r : Option FieldType} (hpd : parseMethodDescriptor y.desc = some ⟨ps, r⟩) (hlen : argsL.length = ps.length) (hst : st = argsL.reverse ++ S) (hW : (S.map fun v => v.category).sum ≤ W) (hcl : cells + rm.cells ≤ R.cells) (hsl : slots + rm.slots ≤ R.slots)
    (hd : decode cb pc = .ok (.invokestatic i, 3)) (hp : pc + 3 = pc') (k : ∀ T' h' locs' v, own_A l Z own cb ml n0 p e R s m args below meth c T' h' locs' (cells + rm.cells) (slots + rm.slots) → Q v h' → own_E p e below G (T'.setTop (mkF m pc' Ls (v.toList ++ S)))) : own_E p e below G (T.setTop (mkF m pc Ls st)) := by
  obtain ⟨X, hx, hZ, hby, hml, hown, eT, N, hsz, hlk⟩ := X
  subst hp
  obtain ⟨v, _, ⟨T', L', k', n'⟩, -, X', ⟨Lc, hQ, q1, q2, q3⟩, stp⟩ := Jvm.LawKit.callS X hx (y := y) hown (mvT hZ w1) (mvT hZ w2) (mvT hZ w3) (mvT hZ w4) hy (backOf (Q := fun v h L => Q v h ∧ Fr n0 L ∧ n0 ≤ h.size) (W := W) (hC []) hZ w4 w3 hf hl) (g := mkF m pc Ls st) rfl (by rw [hml]; exact hls) (argsL := argsL) (rest := S) (lenOf hpd hlen) hst (by show 2 * 0 + _ ≤ _; omega) (hb hby hd) (fun _ _ => ⟨rfl, eT, hcl, hsl⟩)
  dsimp only [Pt.U, Pt.locs, Pt.cells, Pt.slots] at X' q1 q2 q3 stp hQ
  subst q1 q2 q3
  exact own_go stp (k _ _ _ _ ⟨X', hx, hZ, hby, hml, hown, rfl, N.app hQ.2.1, hQ.2.2, hlk⟩ hQ.1)
theorem own_callI (X : own_A l Z own cb ml n0 p e R s m args below meth c T h locs cells slots) {y : MethodName} {cb' : ByteArray} {ml' : Nat} {rm : Room} {a : Addr} {argsL st : List Value} {Q : Option Value → Heap → Prop} {i : Nat} (hC : own_Con l Z y cb' ml' none rm (.ref a :: argsL).toArray h n0 Q) (hy1 : y.name = "<init>")
    (w1 : (Jvm.Cond.methodLink own i y).before a0 Z = true) (w2 : (Jvm.Cond.instanceMethod y).before a0 Z = true) (w3 : (Jvm.Cond.initialized y.cls).before a0 Z = true) (w4 : (Jvm.Cond.code y cb' ml' none).before a0 Z = true) (hy : y.cls ≠ "java/lang/invoke/MethodHandle" ∧ y.cls ≠ "java/lang/invoke/VarHandle")
    (hf : rm.frames + 1 ≤ R.frames) (W : Nat) (hl : W + (ml' + 11) + rm.locals ≤ R.locals) (hls : Ls.size = ml) {ps : List FieldType} {r : Option FieldType} (hpd : parseMethodDescriptor y.desc = some ⟨ps, r⟩) (hlen : argsL.length = ps.length) (hst : st = argsL.reverse ++ .ref a :: S) (hW : (S.map fun v => v.category).sum ≤ W) (hcl : cells + rm.cells ≤ R.cells) (hsl : slots + rm.slots ≤ R.slots)
    (hd : decode cb pc = .ok (.invokespecial i, 3)) (hp : pc + 3 = pc') (k : ∀ T' h' locs' v, own_A l Z own cb ml n0 p e R s m args below meth c T' h' locs' (cells + rm.cells) (slots + rm.slots) → Q v h' → own_E p e below G (T'.setTop (mkF m pc' Ls (v.toList ++ S)))) : own_E p e below G (T.setTop (mkF m pc Ls st)) := by
  obtain ⟨X, hx, hZ, hby, hml, hown, eT, N, hsz, hlk⟩ := X
  subst hp
  obtain ⟨v, _, ⟨T', L', k', n'⟩, -, X', ⟨Lc, hQ, q1, q2, q3⟩, stp⟩ := X.specialBack hx (y := y) hy1 hown (mvT hZ w1) (mvT hZ w2) (mvT hZ w4) hy (backOf (Q := fun v h L => Q v h ∧ Fr n0 L ∧ n0 ≤ h.size) (W := W) (hC []) hZ w4 w3 hf hl) (g := mkF m pc Ls st) rfl (by rw [hml]; exact hls) (Steps.refl _) (a := a) (argsL := argsL) (rest := S) (lenOf hpd hlen) hst (by show 2 * 0 + _ ≤ _; omega) (hb hby hd) (fun _ _ => ⟨rfl, eT, hcl, hsl⟩)
  dsimp only [Pt.U, Pt.locs, Pt.cells, Pt.slots] at X' q1 q2 q3 stp hQ
  subst q1 q2 q3
  exact own_go (fun _ z => stp.trans z) (k _ _ _ _ ⟨X', hx, hZ, hby, hml, hown, rfl, N.app hQ.2.1, hQ.2.2, hlk⟩ hQ.1)
theorem own_callV (X : own_A l Z own cb ml n0 p e R s m args below meth c T h locs cells slots) {y : MethodName} {C : String} {cb' : ByteArray} {ml' : Nat} {ret' : Option FieldType} {rm : Room} {a : Addr} {argsL st : List Value} {Q : Option Value → Heap → Prop} {i : Nat} (hC : own_Con l Z y cb' ml' ret' rm (.ref a :: argsL).toArray h n0 Q) (E : Exa Z h a C)
    (w1 : (Jvm.Cond.methodLink own i y).before a0 Z = true) (w2 : (Jvm.Cond.declares y).before a0 Z = true) (w5 : (Jvm.Cond.selects C y y).before a0 Z = true) (w6 : (Jvm.Cond.instanceMethod y).before a0 Z = true) (w3 : (Jvm.Cond.initialized y.cls).before a0 Z = true) (w4 : (Jvm.Cond.code y cb' ml' ret').before a0 Z = true) (hy : y.cls ≠ "java/lang/invoke/MethodHandle" ∧ y.cls ≠ "java/lang/invoke/VarHandle")
    (hf : rm.frames + 1 ≤ R.frames) (W : Nat) (hl : W + (ml' + 11) + rm.locals ≤ R.locals) (hls : Ls.size = ml) {ps : List FieldType} {r : Option FieldType} (hpd : parseMethodDescriptor y.desc = some ⟨ps, r⟩) (hlen : argsL.length = ps.length) (hst : st = argsL.reverse ++ .ref a :: S) (hW : (S.map fun v => v.category).sum ≤ W) (hcl : cells + rm.cells ≤ R.cells) (hsl : slots + rm.slots ≤ R.slots)
    (hd : decode cb pc = .ok (.invokevirtual i, 3)) (hp : pc + 3 = pc') (hC0 : y.cls = C) (k : ∀ T' h' locs' v, own_A l Z own cb ml n0 p e R s m args below meth c T' h' locs' (cells + rm.cells) (slots + rm.slots) → Q v h' → own_E p e below G (T'.setTop (mkF m pc' Ls (v.toList ++ S)))) : own_E p e below G (T.setTop (mkF m pc Ls st)) := by
  obtain ⟨X, hx, hZ, hby, hml, hown, eT, N, hsz, hlk⟩ := X
  subst hp; subst hC0
  obtain ⟨cq, kq, qa, qb, qc⟩ := isOf hZ eT E
  obtain ⟨v, _, ⟨T', L', k', n'⟩, -, X', ⟨Lc, hQ, q1, q2, q3⟩, stp⟩ := X.virtualBack hx (y := y) (z := y) hown (mvT hZ w1) (mvT hZ w2) (notFace_of_selects (args := #[]) (mvT hZ w5)) (mvT hZ w5) (mvT hZ w6) hy (backOf (Q := fun v h L => Q v h ∧ Fr n0 L ∧ n0 ≤ h.size) (W := W) (hC []) hZ w4 w3 hf hl) qa qc (g := mkF m pc Ls st) rfl (by rw [hml]; exact hls) (Steps.refl _) (argsL := argsL) (rest := S) (lenOf hpd hlen) hst (by show 2 * 0 + _ ≤ _; omega) (hb hby hd) (fun _ _ => ⟨rfl, eT, hcl, hsl⟩)
  dsimp only [Pt.U, Pt.locs, Pt.cells, Pt.slots] at X' q1 q2 q3 stp hQ
  subst q1 q2 q3
  exact own_go (fun _ z => stp.trans z) (k _ _ _ _ ⟨X', hx, hZ, hby, hml, hown, rfl, N.app hQ.2.1, hQ.2.2, hlk⟩ hQ.1)
theorem own_initO (X : own_A l Z own cb ml n0 p e R s m args below meth c T h locs cells slots) {i : Nat} {a : Addr} (w1 : (Jvm.Cond.methodLink own i Lib.objectInit).before a0 Z = true) (w2 : (Jvm.Cond.instanceMethod Lib.objectInit).before a0 Z = true) (w3 : (Jvm.Cond.code Lib.objectInit ⟨#[0xb1]⟩ 1 none).before a0 Z = true) (hls : Ls.size = ml) (hf : 1 ≤ R.frames) (W : Nat) (hW : (S.map fun v => v.category).sum ≤ W) (hl : W + 12 ≤ R.locals)
    (hd : decode cb pc = .ok (.invokespecial i, 3)) (hp : pc + 3 = pc') (k : ∀ T', own_A l Z own cb ml n0 p e R s m args below meth c T' h locs cells slots → own_E p e below G (T'.setTop (mkF m pc' Ls S))) : own_E p e below G (T.setTop (mkF m pc Ls (.ref a :: S))) := by
  obtain ⟨X, hx, hZ, hby, hml, hown, eT, N, hsz, hlk⟩ := X
  subst hp
  obtain ⟨T', X', eT', stp⟩ := initO X hx hZ hown w1 w2 w3 eT (g := mkF m pc Ls (.ref a :: S)) rfl (by rw [hml]; exact hls) rfl (hb hby hd) hf (W := W) (by show 2 * 0 + _ ≤ _; omega) hl
  exact own_go stp (k _ ⟨X', hx, hZ, hby, hml, hown, eT', N, hsz, hlk⟩)
theorem own_getF (X : own_A l Z own cb ml n0 p e R s m args below meth c T h locs cells slots) {i : Nat} {a : Addr} {C f d : String} {v : Value} (w1 : (Jvm.Cond.fieldLink own i C f d).before a0 Z = true) (F : Fld Z h a C f d v)
    (hd : decode cb pc = .ok (.getfield i, 3)) (hp : pc + 3 = pc') (k : ∀ T', own_A l Z own cb ml n0 p e R s m args below meth c T' h locs cells slots → own_E p e below G (T'.setTop (mkF m pc' Ls (v :: S)))) : own_E p e below G (T.setTop (mkF m pc Ls (.ref a :: S))) := by
  obtain ⟨X, hx, hZ, hby, hml, hown, eT, N, hsz, hlk⟩ := X
  subst hp
  obtain ⟨T', X', eT', stp⟩ := getF X hx hZ hown (host := "") (Or.inl w1) Via.refl eT F (g := mkF m pc Ls (.ref a :: S)) rfl rfl (hb hby hd)
  exact own_go stp (k _ ⟨X', hx, hZ, hby, hml, hown, eT', N, hsz, hlk⟩)
theorem own_getS (X : own_A l Z own cb ml n0 p e R s m args below meth c T h locs cells slots) {i : Nat} {C f d : String} {v : Value} (w1 : (Jvm.Cond.fieldLink own i C f d).before a0 Z = true) (F : Sta Z h C f d v)
    (hd : decode cb pc = .ok (.getstatic i, 3)) (hp : pc + 3 = pc') (k : ∀ T', own_A l Z own cb ml n0 p e R s m args below meth c T' h locs cells slots → own_E p e below G (T'.setTop (mkF m pc' Ls (v :: S)))) : own_E p e below G (T.setTop (mkF m pc Ls S)) := by
  obtain ⟨X, hx, hZ, hby, hml, hown, eT, N, hsz, hlk⟩ := X
  subst hp
  obtain ⟨T', X', eT', stp⟩ := getS2 X hx hZ hown (host := "") (Or.inl w1) Via.refl eT F (g := mkF m pc Ls S) rfl (hb hby hd)
  exact own_go stp (k _ ⟨X', hx, hZ, hby, hml, hown, eT', N, hsz, hlk⟩)
theorem own_staK {C f d : String} {v : Value} (F : Sta Z h C f d v) (K : Keep h h' []) : Sta Z h' C f d v := by
  obtain ⟨cf, i, k, f', st, cell, h1, h2, h3, h4, h5, r⟩ := F
  exact ⟨cf, i, k, f', st, cell, h1, h2, h3, h4, K.2.1 _ _ h5 (fun q => nomatch q), r⟩
theorem own_putF (X : own_A l Z own cb ml n0 p e R s m args below meth c T h locs cells slots) {i kk : Nat} {a : Addr} {C f d : String} {v old : Value} {ty : FieldType} (w1 : (Jvm.Cond.fieldLink own i C f d).before a0 Z = true) (F : Fld Z h a C f d old) (E : Exa Z h a C) (L : (Jvm.Cond.lays C C f d).before a0 Z = true ∨ ((Jvm.Cond.laysFinal C C f d).before a0 Z = true ∧ own = C ∧ meth.name = "<init>")) (wi : (Jvm.Cond.instantiable C kk).before a0 Z = true)
    (hty : parseFieldDescriptor d = some ty) (hn : narrow ty v = v) (hft : fits ty v = true) (hg : n0 ≤ a) (hd : decode cb pc = .ok (.putfield i, 3)) (hp : pc + 3 = pc')
    (k : ∀ T' h' locs', own_A l Z own cb ml n0 p e R s m args below meth c T' h' locs' cells slots → Wr h h' a (Jvm.RoadKit.slotOf Z C f d) v → Fld Z h' a C f d v → own_E p e below G (T'.setTop (mkF m pc' Ls S))) : own_E p e below G (T.setTop (mkF m pc Ls (v :: .ref a :: S))) := by
  obtain ⟨X, hx, hZ, hby, hml, hown, eT, N, hsz, hlk⟩ := X
  subst hp
  obtain ⟨T', h', X', eT', W, stp⟩ := putF X hx hZ hown (host := "") (Or.inl w1) Via.refl eT F E L wi hty hn hft (g := mkF m pc Ls (v :: .ref a :: S)) rfl rfl (hb hby hd)
  exact own_go stp (k _ _ _ ⟨X', hx, hZ, hby, hml, hown, eT', Fr.snoc X' N hg, by rw [W.size]; exact hsz, hlk⟩ W (F.same W))
theorem own_putFN (X : own_A l Z own cb ml n0 p e R s m args below meth c T h locs cells slots) {i kk : Nat} {a : Addr} {C f d : String} {v v' old : Value} {ty : FieldType} (w1 : (Jvm.Cond.fieldLink own i C f d).before a0 Z = true) (F : Fld Z h a C f d old) (E : Exa Z h a C) (L : (Jvm.Cond.lays C C f d).before a0 Z = true ∨ ((Jvm.Cond.laysFinal C C f d).before a0 Z = true ∧ own = C ∧ meth.name = "<init>")) (wi : (Jvm.Cond.instantiable C kk).before a0 Z = true)
    (hty : parseFieldDescriptor d = some ty) (hn : narrow ty v = v') (hft : fits ty v' = true) (hg : n0 ≤ a) (hd : decode cb pc = .ok (.putfield i, 3)) (hp : pc + 3 = pc')
    (k : ∀ T' h' locs', own_A l Z own cb ml n0 p e R s m args below meth c T' h' locs' cells slots → Wr h h' a (Jvm.RoadKit.slotOf Z C f d) v' → Fld Z h' a C f d v' → own_E p e below G (T'.setTop (mkF m pc' Ls S))) : own_E p e below G (T.setTop (mkF m pc Ls (v :: .ref a :: S))) := by
  obtain ⟨X, hx, hZ, hby, hml, hown, eT, N, hsz, hlk⟩ := X
  subst hp
  obtain ⟨T', h', X', eT', W, stp⟩ := putFN X hx hZ hown w1 Via.refl eT F E L wi hty hn hft (g := mkF m pc Ls (v :: .ref a :: S)) rfl rfl (hb hby hd)
  exact own_go stp (k _ _ _ ⟨X', hx, hZ, hby, hml, hown, eT', Fr.snoc X' N hg, by rw [W.size]; exact hsz, hlk⟩ W (F.same W))
theorem own_new (X : own_A l Z own cb ml n0 p e R s m args below meth c T h locs cells slots) {i n : Nat} {C : String} (w1 : (Jvm.Cond.classLink own i C).before a0 Z = true) (w2 : (Jvm.Cond.instantiable C n).before a0 Z = true) (w3 : (Jvm.Cond.initialized C).before a0 Z = true) (hc : cells + 1 ≤ R.cells) (hs : slots + n ≤ R.slots)
    (hd : decode cb pc = .ok (.new i, 3)) (hp : pc + 3 = pc') (k : ∀ T' h' a, own_A l Z own cb ml n0 p e R s m args below meth c T' h' locs (cells + 1) (slots + n) → Ext h h' → h.size = a → n0 ≤ a → Exa Z h' a C → (∀ {O nm d : String} {ty : FieldType}, Laid Z a0 C O nm d → parseFieldDescriptor d = some ty → Fld Z h' a O nm d (defaultValue ty)) → own_E p e below G (T'.setTop (mkF m pc' Ls (.ref a :: S)))) : own_E p e below G (T.setTop (mkF m pc Ls S)) := by
  obtain ⟨X, hx, hZ, hby, hml, hown, eT, N, hsz, hlk⟩ := X
  subst hp
  obtain ⟨T', h', X', eT', E', A', D', -, stp⟩ := newO X hx hZ hown w1 w2 w3 eT (g := mkF m pc Ls S) rfl (hb hby hd) hc hs
  exact own_go stp (k _ _ _ ⟨X', hx, hZ, hby, hml, hown, eT', N, Nat.le_trans hsz E'.1, hlk⟩ E' rfl hsz A' D')
/-! arrays -/
def own_V (Z : State) (h : Heap) (a : Addr) (ty : FieldType) (z : Int32) (xs : List Int32) : Prop := ∃ k, Arv Z h a k ty z (xs.map Value.int) (.int 0) ∧ xs.length = z.toNatClampNeg
def own_W (Z : State) (h : Heap) (a : Addr) (z : Int32) (xs : List Int64) : Prop := ∃ k, Arv Z h a k .long z (xs.map Value.long) (.long 0) ∧ xs.length = z.toNatClampNeg
theorem own_V.ext {a : Addr} {ty : FieldType} {z : Int32} {xs : List Int32} (V : own_V Z h a ty z xs) (E : Ext h h') : own_V Z h' a ty z xs := by obtain ⟨k, A, q⟩ := V; exact ⟨k, A.ext E, q⟩
theorem own_W.ext {a : Addr} {z : Int32} {xs : List Int64} (V : own_W Z h a z xs) (E : Ext h h') : own_W Z h' a z xs := by obtain ⟨k, A, q⟩ := V; exact ⟨k, A.ext E, q⟩
theorem own_V.other {a b : Addr} {ty : FieldType} {z : Int32} {xs : List Int32} {sl : Nat} {v : Value} (V : own_V Z h a ty z xs) (W : Wr h h' b sl v) (q : a ≠ b) : own_V Z h' a ty z xs := by obtain ⟨k, A, r⟩ := V; exact ⟨k, A.other W q, r⟩
theorem own_W.other {a b : Addr} {z : Int32} {xs : List Int64} {sl : Nat} {v : Value} (V : own_W Z h a z xs) (W : Wr h h' b sl v) (q : a ≠ b) : own_W Z h' a z xs := by obtain ⟨k, A, r⟩ := V; exact ⟨k, A.other W q, r⟩
theorem own_V.keep {a : Addr} {ty : FieldType} {z : Int32} {xs : List Int32} {ws : List Addr} (V : own_V Z h a ty z xs) (K : Keep h h' ws) (q : a ∉ ws) : own_V Z h' a ty z xs := by obtain ⟨k, A, r⟩ := V; exact ⟨k, A.keep K q, r⟩
theorem own_W.keep {a : Addr} {z : Int32} {xs : List Int64} {ws : List Addr} (V : own_W Z h a z xs) (K : Keep h h' ws) (q : a ∉ ws) : own_W Z h' a z xs := by obtain ⟨k, A, r⟩ := V; exact ⟨k, A.keep K q, r⟩
theorem own_V.lt {a : Addr} {ty : FieldType} {z : Int32} {xs : List Int32} (V : own_V Z h a ty z xs) : a < h.size := by obtain ⟨k, A, r⟩ := V; exact A.lt
theorem own_W.lt {a : Addr} {z : Int32} {xs : List Int64} (V : own_W Z h a z xs) : a < h.size := by obtain ⟨k, A, r⟩ := V; exact A.lt
theorem own_V.len {a : Addr} {ty : FieldType} {z : Int32} {xs : List Int32} (V : own_V Z h a ty z xs) : xs.length = z.toNatClampNeg := by obtain ⟨k, A, r⟩ := V; exact r
theorem own_W.len {a : Addr} {z : Int32} {xs : List Int64} (V : own_W Z h a z xs) : xs.length = z.toNatClampNeg := by obtain ⟨k, A, r⟩ := V; exact r
theorem own_V.cast {a : Addr} {ty : FieldType} {z : Int32} {xs ys : List Int32} (V : own_V Z h a ty z xs) (q : xs = ys) : own_V Z h a ty z ys := q ▸ V
theorem own_W.cast {a : Addr} {z : Int32} {xs ys : List Int64} (V : own_W Z h a z xs) (q : xs = ys) : own_W Z h a z ys := q ▸ V
theorem own_cast (X : own_A l Z own cb ml n0 p e R s m args below meth c T h locs cells slots) {i : Nat} {a : Addr} {C : String} (w1 : (Jvm.Cond.classLink own i C).before a0 Z = true) (I : Ins Z h a C true)
    (hd : decode cb pc = .ok (.checkcast i, 3)) (hp : pc + 3 = pc') (k : ∀ T', own_A l Z own cb ml n0 p e R s m args below meth c T' h locs cells slots → own_E p e below G (T'.setTop (mkF m pc' Ls (.ref a :: S)))) : own_E p e below G (T.setTop (mkF m pc Ls (.ref a :: S))) := by
  obtain ⟨X, hx, hZ, hby, hml, hown, eT, N, hsz, hlk⟩ := X
  subst hp
  obtain ⟨T', X', eT', stp⟩ := castY X hx hZ hown w1 eT I (g := mkF m pc Ls (.ref a :: S)) rfl rfl (hb hby hd)
  exact own_go stp (k _ ⟨X', hx, hZ, hby, hml, hown, eT', N, hsz, hlk⟩)
theorem own_V.nn {a : Addr} {ty : FieldType} {z : Int32} {xs : List Int32} (V : own_V Z h a ty z xs) : ¬ z < 0 := by obtain ⟨k, ⟨cl, A, q1, q2, q3, r⟩, r'⟩ := V; exact q3
theorem own_idx {j z : Int32} {n : Nat} (q : n = z.toNatClampNeg) (h0 : ¬ j < 0) (h1 : j < z) : j.toNatClampNeg < n := by
  subst q
  rw [Int32.lt_iff_toInt_lt] at h0 h1
  have e0 : (0 : Int32).toInt = 0 := rfl
  simp only [Int32.toNatClampNeg]; omega
theorem own_mapI (xs : List Int32) (i : Nat) : (xs.map Value.int).getD i (.int 0) = .int (xs.getD i 0) := by
  simp only [List.getD_eq_getElem?_getD, List.getElem?_map]; cases xs[i]? <;> rfl
theorem own_mapL (xs : List Int64) (i : Nat) : (xs.map Value.long).getD i (.long 0) = .long (xs.getD i 0) := by
  simp only [List.getD_eq_getElem?_getD, List.getElem?_map]; cases xs[i]? <;> rfl
theorem own_newV (X : own_A l Z own cb ml n0 p e R s m args below meth c T h locs cells slots) {aty : ArrayType} {ty : FieldType} {n : Int32} (hty : newarray.typeOf aty = ty) (hdv : defaultValue ty = .int 0) (w : (Jvm.Cond.arrayClass ty).before a0 Z = true) (hn : ¬ n < 0) (cap : Nat) (hcap : n.toNatClampNeg ≤ cap) (hb8 : cap * 8 ≤ 536870912) (hc : cells + 1 ≤ R.cells) (hs : slots + cap ≤ R.slots)
    (hd : decode cb pc = .ok (.newarray aty, 2)) (hp : pc + 2 = pc') (k : ∀ T' h' a, own_A l Z own cb ml n0 p e R s m args below meth c T' h' locs (cells + 1) (slots + cap) → Ext h h' → h.size = a → n0 ≤ a → own_V Z h' a ty n (List.replicate n.toNatClampNeg 0) → own_E p e below G (T'.setTop (mkF m pc' Ls (.ref a :: S)))) : own_E p e below G (T.setTop (mkF m pc Ls (.int n :: S))) := by
  obtain ⟨X, hx, hZ, hby, hml, hown, eT, N, hsz, hlk⟩ := X
  subst hp; subst hty
  obtain ⟨T', h', cA, X', eT', E', A', stp⟩ := newP X hx hZ w eT (g := mkF m pc Ls (.int n :: S)) rfl (hb hby hd) rfl hn (cap := cap) hcap hb8 hc hs
  refine own_go stp (k _ _ _ ⟨X', hx, hZ, hby, hml, hown, eT', N, Nat.le_trans hsz E'.1, hlk⟩ E' rfl hsz ⟨cA, ?_, by simp⟩)
  have V := Arv.new A' hn
  rw [hdv] at V
  refine V.pad fun i => ?_
  rw [List.map_replicate]
  exact pad_rep [] (.int 0) n.toNatClampNeg i
theorem own_newW (X : own_A l Z own cb ml n0 p e R s m args below meth c T h locs cells slots) {n : Int32} (w : (Jvm.Cond.arrayClass .long).before a0 Z = true) (hn : ¬ n < 0) (cap : Nat) (hcap : n.toNatClampNeg ≤ cap) (hb8 : cap * 8 ≤ 536870912) (hc : cells + 1 ≤ R.cells) (hs : slots + cap ≤ R.slots)
    (hd : decode cb pc = .ok (.newarray .long, 2)) (hp : pc + 2 = pc') (k : ∀ T' h' a, own_A l Z own cb ml n0 p e R s m args below meth c T' h' locs (cells + 1) (slots + cap) → Ext h h' → h.size = a → n0 ≤ a → own_W Z h' a n (List.replicate n.toNatClampNeg 0) → own_E p e below G (T'.setTop (mkF m pc' Ls (.ref a :: S)))) : own_E p e below G (T.setTop (mkF m pc Ls (.int n :: S))) := by
  obtain ⟨X, hx, hZ, hby, hml, hown, eT, N, hsz, hlk⟩ := X
  subst hp
  obtain ⟨T', h', cA, X', eT', E', A', stp⟩ := newP X hx hZ (aty := .long) w eT (g := mkF m pc Ls (.int n :: S)) rfl (hb hby hd) rfl hn (cap := cap) hcap hb8 hc hs
  refine own_go stp (k _ _ _ ⟨X', hx, hZ, hby, hml, hown, eT', N, Nat.le_trans hsz E'.1, hlk⟩ E' rfl hsz ⟨cA, ?_, by simp⟩)
  have V := Arv.new A' hn
  refine V.pad fun i => ?_
  rw [List.map_replicate]
  exact pad_rep [] (.long 0) n.toNatClampNeg i
theorem own_bastore (X : own_A l Z own cb ml n0 p e R s m args below meth c T h locs cells slots) {a : Addr} {z j x y : Int32} {xs : List Int32} (V : own_V Z h a .byte z xs) (hg : n0 ≤ a) (hy : nar .byte x = y) (i : Nat) (hj : j.toNatClampNeg = i) (h0 : ¬ j < 0) (h1 : j < z)
    (hd : decode cb pc = .ok (.bastore, 1)) (hp : pc + 1 = pc') (k : ∀ T' h' locs', own_A l Z own cb ml n0 p e R s m args below meth c T' h' locs' cells slots → Wr h h' a j.toNatClampNeg (.int y) → own_V Z h' a .byte z (xs.set i y) → own_E p e below G (T'.setTop (mkF m pc' Ls S))) : own_E p e below G (T.setTop (mkF m pc Ls (.int x :: .int j :: .ref a :: S))) := by
  obtain ⟨X, hx, hZ, hby, hml, hown, eT, N, hsz, hlk⟩ := X
  obtain ⟨kc, ⟨cl, A, q1, q2, q3, H, F⟩, hlen⟩ := V
  subst hp; subst hy
  obtain ⟨T', h', X', eT', W, stp⟩ := stB X hx hZ eT A (j := j) (x := x) (inb_of q2 ⟨h0, h1⟩) (g := mkF m pc Ls (.int x :: .int j :: .ref a :: S)) rfl rfl (hb hby hd)
  refine own_go stp (k _ _ _ ⟨X', hx, hZ, hby, hml, hown, eT', Fr.snoc X' N hg, by rw [W.size]; exact hsz, hlk⟩ W ⟨kc, ?_, by rw [List.length_set]; exact hlen⟩)
  rw [List.map_set]
  exact Arv.set A q1 q2 q3 H F (fits_nar_byte _) W i hj (by rw [List.length_map, ← hj]; exact own_idx hlen h0 h1)
theorem own_iastore (X : own_A l Z own cb ml n0 p e R s m args below meth c T h locs cells slots) {a : Addr} {z j w x : Int32} {xs : List Int32} (V : own_V Z h a .int z xs) (hg : n0 ≤ a) (hy : w = x) (i : Nat) (hj : j.toNatClampNeg = i) (h0 : ¬ j < 0) (h1 : j < z)
    (hd : decode cb pc = .ok (.iastore, 1)) (hp : pc + 1 = pc') (k : ∀ T' h' locs', own_A l Z own cb ml n0 p e R s m args below meth c T' h' locs' cells slots → Wr h h' a j.toNatClampNeg (.int x) → own_V Z h' a .int z (xs.set i x) → own_E p e below G (T'.setTop (mkF m pc' Ls S))) : own_E p e below G (T.setTop (mkF m pc Ls (.int w :: .int j :: .ref a :: S))) := by
  obtain ⟨X, hx, hZ, hby, hml, hown, eT, N, hsz, hlk⟩ := X
  obtain ⟨kc, ⟨cl, A, q1, q2, q3, H, F⟩, hlen⟩ := V
  subst hp; subst hy
  obtain ⟨T', h', X', eT', W, stp⟩ := stI X hx hZ eT A (j := j) (x := w) (inb_of q2 ⟨h0, h1⟩) (g := mkF m pc Ls (.int w :: .int j :: .ref a :: S)) rfl rfl (hb hby hd)
  refine own_go stp (k _ _ _ ⟨X', hx, hZ, hby, hml, hown, eT', Fr.snoc X' N hg, by rw [W.size]; exact hsz, hlk⟩ W ⟨kc, ?_, by rw [List.length_set]; exact hlen⟩)
  rw [List.map_set]
  exact Arv.set A q1 q2 q3 H F rfl W i hj (by rw [List.length_map, ← hj]; exact own_idx hlen h0 h1)
theorem own_lastore (X : own_A l Z own cb ml n0 p e R s m args below meth c T h locs cells slots) {a : Addr} {z j : Int32} {w x : Int64} {xs : List Int64} (V : own_W Z h a z xs) (hg : n0 ≤ a) (hy : w = x) (i : Nat) (hj : j.toNatClampNeg = i) (h0 : ¬ j < 0) (h1 : j < z)
    (hd : decode cb pc = .ok (.lastore, 1)) (hp : pc + 1 = pc') (k : ∀ T' h' locs', own_A l Z own cb ml n0 p e R s m args below meth c T' h' locs' cells slots → Wr h h' a j.toNatClampNeg (.long x) → own_W Z h' a z (xs.set i x) → own_E p e below G (T'.setTop (mkF m pc' Ls S))) : own_E p e below G (T.setTop (mkF m pc Ls (.long w :: .int j :: .ref a :: S))) := by
  obtain ⟨X, hx, hZ, hby, hml, hown, eT, N, hsz, hlk⟩ := X
  obtain ⟨kc, ⟨cl, A, q1, q2, q3, H, F⟩, hlen⟩ := V
  subst hp; subst hy
  obtain ⟨T', h', X', eT', W, stp⟩ := stJ X hx hZ eT A (j := j) (x := w) (inb_of q2 ⟨h0, h1⟩) (g := mkF m pc Ls (.long w :: .int j :: .ref a :: S)) rfl rfl (hb hby hd)
  refine own_go stp (k _ _ _ ⟨X', hx, hZ, hby, hml, hown, eT', Fr.snoc X' N hg, by rw [W.size]; exact hsz, hlk⟩ W ⟨kc, ?_, by rw [List.length_set]; exact hlen⟩)
  rw [List.map_set]
  exact Arv.set A q1 q2 q3 H F rfl W i hj (by rw [List.length_map, ← hj]; exact own_idx hlen h0 h1)
theorem own_baload (X : own_A l Z own cb ml n0 p e R s m args below meth c T h locs cells slots) {a : Addr} {z j y : Int32} {xs : List Int32} (V : own_V Z h a .byte z xs) (h0 : ¬ j < 0) (h1 : j < z) (hy : xs.getD j.toNatClampNeg 0 = y) (hd : decode cb pc = .ok (.baload, 1)) (hp : pc + 1 = pc') (k : own_E p e below G (T.setTop (mkF m pc' Ls (.int y :: S)))) : own_E p e below G (T.setTop (mkF m pc Ls (.int j :: .ref a :: S))) := by
  obtain ⟨X, hx, hZ, hby, hml, hown, eT, N, hsz, hlk⟩ := X
  obtain ⟨kc, ⟨cl, A, q1, q2, q3, H, F⟩, hlen⟩ := V
  subst hp
  have hin := inb_of q2 (j := j) ⟨h0, h1⟩
  exact own_go (X.baloadBytes hx (j := j) (v := .int y) (by rw [eT]; exact A.1) (State.isArrayOf_alike hZ.alike A.2.1) A.2.2 hin (H.at hin (by rw [own_mapI, hy])) (g := mkF m pc Ls (.int j :: .ref a :: S)) rfl rfl (hb hby hd)) k
theorem own_iaload (X : own_A l Z own cb ml n0 p e R s m args below meth c T h locs cells slots) {a : Addr} {z j y : Int32} {xs : List Int32} (V : own_V Z h a .int z xs) (h0 : ¬ j < 0) (h1 : j < z) (hy : xs.getD j.toNatClampNeg 0 = y) (hd : decode cb pc = .ok (.iaload, 1)) (hp : pc + 1 = pc') (k : own_E p e below G (T.setTop (mkF m pc' Ls (.int y :: S)))) : own_E p e below G (T.setTop (mkF m pc Ls (.int j :: .ref a :: S))) := by
  obtain ⟨X, hx, hZ, hby, hml, hown, eT, N, hsz, hlk⟩ := X
  obtain ⟨kc, ⟨cl, A, q1, q2, q3, H, F⟩, hlen⟩ := V
  subst hp
  have hin := inb_of q2 (j := j) ⟨h0, h1⟩
  exact own_go (X.iaload hx (j := j) (v := .int y) (by rw [eT]; exact A.1) (State.isArrayOf_alike hZ.alike A.2.1) A.2.2 hin (H.at hin (by rw [own_mapI, hy])) (g := mkF m pc Ls (.int j :: .ref a :: S)) rfl rfl (hb hby hd)) k
theorem own_laload (X : own_A l Z own cb ml n0 p e R s m args below meth c T h locs cells slots) {a : Addr} {z j : Int32} {y : Int64} {xs : List Int64} (V : own_W Z h a z xs) (h0 : ¬ j < 0) (h1 : j < z) (hy : xs.getD j.toNatClampNeg 0 = y) (hd : decode cb pc = .ok (.laload, 1)) (hp : pc + 1 = pc') (k : own_E p e below G (T.setTop (mkF m pc' Ls (.long y :: S)))) : own_E p e below G (T.setTop (mkF m pc Ls (.int j :: .ref a :: S))) := by
  obtain ⟨X, hx, hZ, hby, hml, hown, eT, N, hsz, hlk⟩ := X
  obtain ⟨kc, ⟨cl, A, q1, q2, q3, H, F⟩, hlen⟩ := V
  subst hp
  have hin := inb_of q2 (j := j) ⟨h0, h1⟩
  exact own_go (X.laload hx (j := j) (v := .long y) (by rw [eT]; exact A.1) (State.isArrayOf_alike hZ.alike A.2.1) A.2.2 hin (H.at hin (by rw [own_mapL, hy])) (g := mkF m pc Ls (.int j :: .ref a :: S)) rfl rfl (hb hby hd)) k
theorem own_alen (X : own_A l Z own cb ml n0 p e R s m args below meth c T h locs cells slots) {a : Addr} {z : Int32} {ty : FieldType} {xs : List Int32} (V : own_V Z h a ty z xs) (hd : decode cb pc = .ok (.arraylength, 1)) (hp : pc + 1 = pc') (k : own_E p e below G (T.setTop (mkF m pc' Ls (.int z :: S)))) : own_E p e below G (T.setTop (mkF m pc Ls (.ref a :: S))) := by
  obtain ⟨X, hx, hZ, hby, hml, hown, eT, N, hsz, hlk⟩ := X
  obtain ⟨kc, ⟨cl, A, q1, q2, q3, H, F⟩, hlen⟩ := V
  subst hp
  refine own_go (X.arraylength hx (by rw [eT]; exact A.1) (State.isArrayOf_alike hZ.alike A.2.1) (g := mkF m pc Ls (.ref a :: S)) rfl rfl (hb hby hd)) ?_
  rw [len_of q2 q3]; exact k
end OwnKit
/-! OWN NUMBERS -/
theorem own_adL {a b : Int64} (h1 : -9223372036854775808 ≤ a.toInt + b.toInt) (h2 : a.toInt + b.toInt < 9223372036854775808) : (a + b).toInt = a.toInt + b.toInt := by
  rw [Int64.toInt_add]; exact Int.bmod_eq_of_le_mul_two (by omega) (by omega)
theorem own_sbL {a b : Int64} (h1 : -9223372036854775808 ≤ a.toInt - b.toInt) (h2 : a.toInt - b.toInt < 9223372036854775808) : (a - b).toInt = a.toInt - b.toInt := by
  rw [Int64.toInt_sub]; exact Int.bmod_eq_of_le_mul_two (by omega) (by omega)
theorem own_mlL {a b : Int64} (h1 : -9223372036854775808 ≤ a.toInt * b.toInt) (h2 : a.toInt * b.toInt < 9223372036854775808) : (a * b).toInt = a.toInt * b.toInt := by
  rw [Int64.toInt_mul]; exact Int.bmod_eq_of_le_mul_two (by omega) (by omega)
theorem own_ad {a b : Int32} (h1 : -2147483648 ≤ a.toInt + b.toInt) (h2 : a.toInt + b.toInt < 2147483648) : (a + b).toInt = a.toInt + b.toInt := by
  rw [Int32.toInt_add]; exact Int.bmod_eq_of_le_mul_two (by omega) (by omega)
theorem own_sb {a b : Int32} (h1 : -2147483648 ≤ a.toInt - b.toInt) (h2 : a.toInt - b.toInt < 2147483648) : (a - b).toInt = a.toInt - b.toInt := by
  rw [Int32.toInt_sub]; exact Int.bmod_eq_of_le_mul_two (by omega) (by omega)
theorem own_ml {a b : Int32} (h1 : -2147483648 ≤ a.toInt * b.toInt) (h2 : a.toInt * b.toInt < 2147483648) : (a * b).toInt = a.toInt * b.toInt := by
  rw [Int32.toInt_mul]; exact Int.bmod_eq_of_le_mul_two (by omega) (by omega)
theorem own_dvL {a b : Int64} (h0 : 0 ≤ a.toInt) (h1 : 0 < b.toInt) : (a / b).toInt = a.toInt / b.toInt := by
  rw [Int64.toInt_div, Int.tdiv_eq_ediv_of_nonneg h0]
  have := Int64.toInt_lt a
  have h2 : a.toInt / b.toInt ≤ a.toInt := Int.ediv_le_self _ h0
  have h3 : 0 ≤ a.toInt / b.toInt := Int.ediv_nonneg h0 (by omega)
  exact Int.bmod_eq_of_le_mul_two (by omega) (by omega)
theorem own_dv {a b : Int32} (h0 : 0 ≤ a.toInt) (h1 : 0 < b.toInt) : (a / b).toInt = a.toInt / b.toInt := by
  rw [Int32.toInt_div, Int.tdiv_eq_ediv_of_nonneg h0]
  have := Int32.toInt_lt a
  have h2 : a.toInt / b.toInt ≤ a.toInt := Int.ediv_le_self _ h0
  have h3 : 0 ≤ a.toInt / b.toInt := Int.ediv_nonneg h0 (by omega)
  exact Int.bmod_eq_of_le_mul_two (by omega) (by omega)
theorem own_rmL {a b : Int64} (h0 : 0 ≤ a.toInt) : (a % b).toInt = a.toInt % b.toInt := by
  rw [Int64.toInt_mod, Int.tmod_eq_emod_of_nonneg h0]
theorem own_rm {a b : Int32} (h0 : 0 ≤ a.toInt) : (a % b).toInt = a.toInt % b.toInt := by
  rw [Int32.toInt_mod, Int.tmod_eq_emod_of_nonneg h0]
theorem own_ltL {a b : Int64} : a < b ↔ a.toInt < b.toInt := Int64.lt_iff_toInt_lt
theorem own_lt {a b : Int32} : a < b ↔ a.toInt < b.toInt := Int32.lt_iff_toInt_lt
theorem own_eqL {a b : Int64} : a = b ↔ a.toInt = b.toInt := Int64.toInt_inj.symm
theorem own_eq {a b : Int32} : a = b ↔ a.toInt = b.toInt := Int32.toInt_inj.symm
theorem own_mkL {a b : Int64} {k : Nat} (hk : k < 64) (hb : b.toBitVec.toNat = 2 ^ k - 1) : (a &&& b).toInt = a.toInt % (2 ^ k : Nat) := by
  have e : (a &&& b).toBitVec.toNat = a.toBitVec.toNat % 2 ^ k := by rw [Int64.toBitVec_and, BitVec.toNat_and, hb, Nat.and_two_pow_sub_one_eq_mod]
  have hlt : a.toBitVec.toNat % 2 ^ k < 2 ^ 63 := Nat.lt_of_lt_of_le (Nat.mod_lt _ (Nat.two_pow_pos k)) (Nat.pow_le_pow_right (by decide) (by omega))
  have e2 : (a &&& b).toInt = ((a.toBitVec.toNat % 2 ^ k : Nat) : Int) := by
    show (a &&& b).toBitVec.toInt = _
    rw [BitVec.toInt_eq_toNat_cond, e, if_pos (by omega)]
  rw [e2]
  show _ = a.toBitVec.toInt % _
  rw [BitVec.toInt_eq_toNat_cond]
  have hd : ((2 ^ 64 : Nat) : Int) % ((2 ^ k : Nat) : Int) = 0 := by
    rw [← Int.natCast_emod, Nat.mod_eq_zero_of_dvd (Nat.pow_dvd_pow 2 (by omega))]; rfl
  split
  · rw [Int.natCast_emod]
  · rw [Int.sub_emod, hd, Int.sub_zero, Int.emod_emod_of_dvd _ (Int.dvd_refl _), Int.natCast_emod]
theorem own_mk {a b : Int32} {k : Nat} (hk : k < 32) (hb : b.toBitVec.toNat = 2 ^ k - 1) : (a &&& b).toInt = a.toInt % (2 ^ k : Nat) := by
  have e : (a &&& b).toBitVec.toNat = a.toBitVec.toNat % 2 ^ k := by rw [Int32.toBitVec_and, BitVec.toNat_and, hb, Nat.and_two_pow_sub_one_eq_mod]
  have hlt : a.toBitVec.toNat % 2 ^ k < 2 ^ 31 := Nat.lt_of_lt_of_le (Nat.mod_lt _ (Nat.two_pow_pos k)) (Nat.pow_le_pow_right (by decide) (by omega))
  have e2 : (a &&& b).toInt = ((a.toBitVec.toNat % 2 ^ k : Nat) : Int) := by
    show (a &&& b).toBitVec.toInt = _
    rw [BitVec.toInt_eq_toNat_cond, e, if_pos (by omega)]
  rw [e2]
  show _ = a.toBitVec.toInt % _
  rw [BitVec.toInt_eq_toNat_cond]
  have hd : ((2 ^ 32 : Nat) : Int) % ((2 ^ k : Nat) : Int) = 0 := by
    rw [← Int.natCast_emod, Nat.mod_eq_zero_of_dvd (Nat.pow_dvd_pow 2 (by omega))]; rfl
  split
  · rw [Int.natCast_emod]
  · rw [Int.sub_emod, hd, Int.sub_zero, Int.emod_emod_of_dvd _ (Int.dvd_refl _), Int.natCast_emod]
theorem own_AL {a b : Int64} {x y : Int} (ha : a.toInt = x) (hb : b.toInt = y) (h1 : -9223372036854775808 ≤ x + y) (h2 : x + y < 9223372036854775808) : (a + b).toInt = x + y := by subst ha hb; exact own_adL h1 h2
theorem own_SL {a b : Int64} {x y : Int} (ha : a.toInt = x) (hb : b.toInt = y) (h1 : -9223372036854775808 ≤ x - y) (h2 : x - y < 9223372036854775808) : (a - b).toInt = x - y := by subst ha hb; exact own_sbL h1 h2
theorem own_ML {a b : Int64} {x y : Int} (ha : a.toInt = x) (hb : b.toInt = y) (h1 : -9223372036854775808 ≤ x * y) (h2 : x * y < 9223372036854775808) : (a * b).toInt = x * y := by subst ha hb; exact own_mlL h1 h2
theorem own_DL {a b : Int64} {x y : Int} (ha : a.toInt = x) (hb : b.toInt = y) (h1 : 0 ≤ x) (h2 : 0 < y) : (a / b).toInt = x / y := by subst ha hb; exact own_dvL h1 h2
theorem own_RL {a b : Int64} {x y : Int} (ha : a.toInt = x) (hb : b.toInt = y) (h1 : 0 ≤ x) : (a % b).toInt = x % y := by subst ha hb; exact own_rmL h1
theorem own_AI {a b : Int32} {x y : Int} (ha : a.toInt = x) (hb : b.toInt = y) (h1 : -2147483648 ≤ x + y) (h2 : x + y < 2147483648) : (a + b).toInt = x + y := by subst ha hb; exact own_ad h1 h2
theorem own_SI {a b : Int32} {x y : Int} (ha : a.toInt = x) (hb : b.toInt = y) (h1 : -2147483648 ≤ x - y) (h2 : x - y < 2147483648) : (a - b).toInt = x - y := by subst ha hb; exact own_sb h1 h2
theorem own_MI {a b : Int32} {x y : Int} (ha : a.toInt = x) (hb : b.toInt = y) (h1 : -2147483648 ≤ x * y) (h2 : x * y < 2147483648) : (a * b).toInt = x * y := by subst ha hb; exact own_ml h1 h2
theorem own_DI {a b : Int32} {x y : Int} (ha : a.toInt = x) (hb : b.toInt = y) (h1 : 0 ≤ x) (h2 : 0 < y) : (a / b).toInt = x / y := by subst ha hb; exact own_dv h1 h2
theorem own_RI {a b : Int32} {x y : Int} (ha : a.toInt = x) (hb : b.toInt = y) (h1 : 0 ≤ x) : (a % b).toInt = x % y := by subst ha hb; exact own_rm h1
theorem own_pos {z : Int32} (h : ¬ z < 0) (h1 : ¬ z = 0) : (0 : Int32) < z := by
  have e0 : (0 : Int32).toInt = 0 := rfl
  rw [own_lt] at *; rw [own_eq] at h1; omega
theorem own_last {z : Int32} (h : (0 : Int32) < z) : ¬ z - 1 < 0 ∧ z - 1 < z := by
  have e0 : (0 : Int32).toInt = 0 := rfl
  have e1 : (1 : Int32).toInt = 1 := rfl
  have hl := Int32.toInt_lt z
  rw [own_lt] at h
  have a : (z - 1).toInt = z.toInt - 1 := own_SI rfl e1 (by omega) (by omega)
  rw [own_lt, own_lt]; omega
theorem own_gs {α : Type} (l : List α) (i j : Nat) (v d : α) (hi : i < l.length) : (l.set i v).getD j d = if i = j then v else l.getD j d := by
  simp only [List.getD_eq_getElem?_getD]
  by_cases h : i = j
  · subst h; rw [if_pos rfl, List.getElem?_set_self hi]; rfl
  · rw [if_neg h, List.getElem?_set_ne h]
theorem own_cl {n : Int32} {k : Int} (h : n.toInt = k) : n.toNatClampNeg = k.toNat := by subst h; rfl
theorem own_b8 {t : Int32} (h0 : -128 ≤ t.toInt) (h1 : t.toInt < 128) : t.toInt8.toInt32 = t := by
  rw [own_eq, Int8.toInt_toInt32, Int32.toInt_toInt8]
  exact Int.bmod_eq_of_le_mul_two (by omega) (by omega)
theorem own_i8 {t : Int32} {x : Int} (h : t.toInt = x) : (t.toInt8.toInt32).toInt = (x + 128) % 256 - 128 := by
  subst h
  rw [Int8.toInt_toInt32, Int32.toInt_toInt8, Int.bmod_def]
  split <;> omega
theorem own_shrI {a b : Int32} {x : Int} {k : Nat} (h : a.toInt = x) (hb : (b.toBitVec.smod (BitVec.ofNat 32 32)).toNat = k) : (a >>> b).toInt = x / (2 ^ k : Nat) := by
  subst h; subst hb
  show (a.toBitVec.sshiftRight' (b.toBitVec.smod (BitVec.ofNat 32 32))).toInt = _
  rw [BitVec.toInt_sshiftRight', Int.shiftRight_eq_div_pow]; rfl
theorem own_shlI {a b : Int32} {x : Int} {k : Nat} (h : a.toInt = x) (hb : (b.toBitVec.smod (BitVec.ofNat 32 32)).toNat = k) (h1 : -2147483648 ≤ x * (2 ^ k : Nat)) (h2 : x * (2 ^ k : Nat) < 2147483648) : (a <<< b).toInt = x * (2 ^ k : Nat) := by
  subst h; subst hb
  show (a.toBitVec <<< (b.toBitVec.smod (BitVec.ofNat 32 32))).toInt = a.toBitVec.toInt * _
  rw [BitVec.shiftLeft_eq', BitVec.toInt_shiftLeft, Nat.shiftLeft_eq, BitVec.toInt_eq_toNat_bmod]
  rw [show ((a.toBitVec.toNat * 2 ^ (b.toBitVec.smod (BitVec.ofNat 32 32)).toNat : Nat) : Int) = (a.toBitVec.toNat : Int) * ((2 ^ (b.toBitVec.smod (BitVec.ofNat 32 32)).toNat : Nat) : Int) from by simp]
  rw [← Int.bmod_mul_bmod]
  have e : ((a.toBitVec.toNat : Int).bmod (2 ^ 32)) = a.toInt := (BitVec.toInt_eq_toNat_bmod _).symm
  rw [e]
  exact Int.bmod_eq_of_le_mul_two (by omega) (by omega)
theorem own_orI {a b : Int32} {x y : Int} (k : Nat) (ha : a.toInt = x) (hb : b.toInt = y) (hk : k ≤ 31) (hx : x % (2 ^ k : Nat) = 0) (h0 : 0 ≤ y) (h1 : y < (2 ^ k : Nat)) (h2 : 0 ≤ x) : (a ||| b).toInt = x + y := by
  have la := a.toBitVec.isLt; have lb := b.toBitVec.isLt
  have na : (a.toBitVec.toNat : Int) = x := by
    have : a.toBitVec.toInt = x := ha
    rw [BitVec.toInt_eq_toNat_cond] at this; split at this <;> omega
  have nb : (b.toBitVec.toNat : Int) = y := by
    have : b.toBitVec.toInt = y := hb
    rw [BitVec.toInt_eq_toNat_cond] at this; split at this <;> omega
  have hm : a.toBitVec.toNat % 2 ^ k = 0 := by
    have : ((a.toBitVec.toNat % 2 ^ k : Nat) : Int) = 0 := by rw [Int.natCast_emod, na]; exact hx
    omega
  have hl : b.toBitVec.toNat < 2 ^ k := by omega
  have ho : a.toBitVec.toNat ||| b.toBitVec.toNat = a.toBitVec.toNat + b.toBitVec.toNat := by
    have hd : a.toBitVec.toNat = 2 ^ k * (a.toBitVec.toNat / 2 ^ k) := by
      have := Nat.div_add_mod a.toBitVec.toNat (2 ^ k); omega
    rw [hd, Nat.two_pow_add_eq_or_of_lt hl]
  have q : (a ||| b).toBitVec.toNat = a.toBitVec.toNat + b.toBitVec.toNat := by rw [Int32.toBitVec_or, BitVec.toNat_or, ho]
  have hA : a.toBitVec.toNat < 2 ^ 31 := by
    have : a.toBitVec.toInt = x := ha
    rw [BitVec.toInt_eq_toNat_cond] at this; split at this <;> omega
  have hB : b.toBitVec.toNat < 2 ^ 31 := by
    have : b.toBitVec.toInt = y := hb
    rw [BitVec.toInt_eq_toNat_cond] at this; split at this <;> omega
  have hS : a.toBitVec.toNat + b.toBitVec.toNat < 2 ^ 31 := by rw [← ho]; exact Nat.or_lt_two_pow hA hB
  show (a ||| b).toBitVec.toInt = _
  rw [BitVec.toInt_eq_toNat_cond, q, if_pos (by omega)]
  omega
theorem own_yes {c : Prop} [d : Decidable c] {a b r : Int32} (h : c) (h2 : a = r) : (if c then a else b) = r := (if_pos h).trans h2
theorem own_no {c : Prop} [d : Decidable c] {a b r : Int32} (h : ¬ c) (h2 : b = r) : (if c then a else b) = r := (if_neg h).trans h2
theorem own_d1_0 : decode method_3_code 0 = .ok (.aload_n 0, 1) := by decide +kernel
theorem own_d1_1 : decode method_3_code 1 = .ok (.iconst 0, 1) := by decide +kernel
theorem own_d1_2 : decode method_3_code 2 = .ok (.iload_n 1, 1) := by decide +kernel
theorem own_d1_3 : decode method_3_code 3 = .ok (.bastore, 1) := by decide +kernel
theorem own_d1_4 : decode method_3_code 4 = .ok (.aload_n 0, 1) := by decide +kernel
theorem own_d1_5 : decode method_3_code 5 = .ok (.iconst 1, 1) := by decide +kernel
theorem own_d1_6 : decode method_3_code 6 = .ok (.iload_n 1, 1) := by decide +kernel
theorem own_d1_7 : decode method_3_code 7 = .ok (.bastore, 1) := by decide +kernel
theorem own_d1_8 : decode method_3_code 8 = .ok (.aload_n 0, 1) := by decide +kernel
theorem own_d1_9 : decode method_3_code 9 = .ok (.iconst 2, 1) := by decide +kernel
theorem own_d1_10 : decode method_3_code 10 = .ok (.iload_n 1, 1) := by decide +kernel
theorem own_d1_11 : decode method_3_code 11 = .ok (.bastore, 1) := by decide +kernel
theorem own_d1_12 : decode method_3_code 12 = .ok (.aload_n 0, 1) := by decide +kernel
theorem own_d1_13 : decode method_3_code 13 = .ok (.iconst 3, 1) := by decide +kernel
theorem own_d1_14 : decode method_3_code 14 = .ok (.iload_n 1, 1) := by decide +kernel
theorem own_d1_15 : decode method_3_code 15 = .ok (.bastore, 1) := by decide +kernel
theorem own_d1_16 : decode method_3_code 16 = .ok (.aload_n 0, 1) := by decide +kernel
theorem own_d1_17 : decode method_3_code 17 = .ok (.iconst 4, 1) := by decide +kernel
theorem own_d1_18 : decode method_3_code 18 = .ok (.iload_n 1, 1) := by decide +kernel
theorem own_d1_19 : decode method_3_code 19 = .ok (.bastore, 1) := by decide +kernel
theorem own_d1_20 : decode method_3_code 20 = .ok (.aload_n 0, 1) := by decide +kernel
theorem own_d1_21 : decode method_3_code 21 = .ok (.iconst 5, 1) := by decide +kernel
theorem own_d1_22 : decode method_3_code 22 = .ok (.iload_n 1, 1) := by decide +kernel
theorem own_d1_23 : decode method_3_code 23 = .ok (.bastore, 1) := by decide +kernel
theorem own_d1_24 : decode method_3_code 24 = .ok (.aload_n 0, 1) := by decide +kernel
theorem own_d1_25 : decode method_3_code 25 = .ok (.bipush 6, 2) := by decide +kernel
theorem own_d1_27 : decode method_3_code 27 = .ok (.iload_n 1, 1) := by decide +kernel
theorem own_d1_28 : decode method_3_code 28 = .ok (.bastore, 1) := by decide +kernel
theorem own_d1_29 : decode method_3_code 29 = .ok (.aload_n 0, 1) := by decide +kernel
theorem own_d1_30 : decode method_3_code 30 = .ok (.bipush 7, 2) := by decide +kernel
theorem own_d1_32 : decode method_3_code 32 = .ok (.iload_n 1, 1) := by decide +kernel
theorem own_d1_33 : decode method_3_code 33 = .ok (.bastore, 1) := by decide +kernel
theorem own_d1_34 : decode method_3_code 34 = .ok (.return_, 1) := by decide +kernel
theorem own_ef1 (a1 : Addr) (p2 : Int32) (m : MethodId) : entryFrame m #[(.ref a1), (.int p2)] 2 = mkF m 0 #[.val (.ref a1), .val (.int p2)] [] := by first | (simp [entryFrame, mkF, argsToLocals, Value.category]; done) | rfl
theorem own_pf1 : plainFor (⟨"com/example/girolog/girolog/files/TextDecoderEncodePinLaw", "fill8", "([BB)V"⟩ : MethodName) = true := by first | exact plainFor_of_name (by first | (simp [plainName, overriddenIn]; done) | decide +kernel) | decide +kernel
set_option maxRecDepth 65536 in
set_option maxHeartbeats 40000000 in
theorem own_rm1 (l : Launch) (Z : State) (a0 : Array Value) (hw : ∀ d ∈ tables_1, d.before a0 Z = true) (a1 : Addr) (x0 : Int32) (x1 : Int32) (x2 : Int32) (x3 : Int32) (x4 : Int32) (x5 : Int32) (x6 : Int32) (x7 : Int32) (p2 : Int32) (h0 : Heap) (n0 : Nat) (Z0 : n0 ≤ h0.size) (V_a1 : own_V Z h0 a1 .byte (8 : Int32) [x0, x1, x2, x3, x4, x5, x6, x7]) (g_a1 : n0 ≤ a1) :
    own_Con l Z (⟨"com/example/girolog/girolog/files/TextDecoderEncodePinLaw", "fill8", "([BB)V"⟩ : MethodName) method_3_code 2 none ({ frames := 0, cells := 0, slots := 0, locals := 0 } : Room) #[(.ref a1), (.int p2)] h0 n0 (fun v h => v = none ∧ Keep h0 h [a1] ∧ own_V Z h a1 .byte (8 : Int32) [(p2.toInt8.toInt32), (p2.toInt8.toInt32), (p2.toInt8.toInt32), (p2.toInt8.toInt32), (p2.toInt8.toInt32), (p2.toInt8.toInt32), (p2.toInt8.toInt32), (p2.toInt8.toInt32)]) := by
  refine own_enter own_pf1 Z0 (own_ef1 a1 p2) ?_
  intro p e s m below meth c T0 X0 hret hnm
  refine own_aloadN X0 own_d1_0 (pc' := 1) rfl (v := (.ref a1)) rfl rfl ?_
  refine own_iconst X0 own_d1_1 (pc' := 2) rfl (z := (0 : Int32)) rfl ?_
  refine own_iloadN X0 own_d1_2 (pc' := 3) rfl (v := p2) rfl ?_
  refine own_bastore X0 V_a1 g_a1 (y := (p2.toInt8.toInt32)) rfl 0 rfl (by decide) (by decide) own_d1_3 (pc' := 4) rfl fun T1 h2 lc4 X3 W5 V6 => ?_
  replace V6 : own_V Z h2 a1 .byte (8 : Int32) [(p2.toInt8.toInt32), x1, x2, x3, x4, x5, x6, x7] := V6
  have K7 := Keep.wr (Keep.refl h0 [a1]) W5 (Or.inl (List.mem_of_getElem? (i := 0) rfl))
  refine own_aloadN X3 own_d1_4 (pc' := 5) rfl (v := (.ref a1)) rfl rfl ?_
  refine own_iconst X3 own_d1_5 (pc' := 6) rfl (z := (1 : Int32)) rfl ?_
  refine own_iloadN X3 own_d1_6 (pc' := 7) rfl (v := p2) rfl ?_
  refine own_bastore X3 V6 g_a1 (y := (p2.toInt8.toInt32)) rfl 1 rfl (by decide) (by decide) own_d1_7 (pc' := 8) rfl fun T8 h9 lc11 X10 W12 V13 => ?_
  replace V13 : own_V Z h9 a1 .byte (8 : Int32) [(p2.toInt8.toInt32), (p2.toInt8.toInt32), x2, x3, x4, x5, x6, x7] := V13
  have K14 := Keep.wr K7 W12 (Or.inl (List.mem_of_getElem? (i := 0) rfl))
  refine own_aloadN X10 own_d1_8 (pc' := 9) rfl (v := (.ref a1)) rfl rfl ?_
  refine own_iconst X10 own_d1_9 (pc' := 10) rfl (z := (2 : Int32)) rfl ?_
  refine own_iloadN X10 own_d1_10 (pc' := 11) rfl (v := p2) rfl ?_
  refine own_bastore X10 V13 g_a1 (y := (p2.toInt8.toInt32)) rfl 2 rfl (by decide) (by decide) own_d1_11 (pc' := 12) rfl fun T15 h16 lc18 X17 W19 V20 => ?_
  replace V20 : own_V Z h16 a1 .byte (8 : Int32) [(p2.toInt8.toInt32), (p2.toInt8.toInt32), (p2.toInt8.toInt32), x3, x4, x5, x6, x7] := V20
  have K21 := Keep.wr K14 W19 (Or.inl (List.mem_of_getElem? (i := 0) rfl))
  refine own_aloadN X17 own_d1_12 (pc' := 13) rfl (v := (.ref a1)) rfl rfl ?_
  refine own_iconst X17 own_d1_13 (pc' := 14) rfl (z := (3 : Int32)) rfl ?_
  refine own_iloadN X17 own_d1_14 (pc' := 15) rfl (v := p2) rfl ?_
  refine own_bastore X17 V20 g_a1 (y := (p2.toInt8.toInt32)) rfl 3 rfl (by decide) (by decide) own_d1_15 (pc' := 16) rfl fun T22 h23 lc25 X24 W26 V27 => ?_
  replace V27 : own_V Z h23 a1 .byte (8 : Int32) [(p2.toInt8.toInt32), (p2.toInt8.toInt32), (p2.toInt8.toInt32), (p2.toInt8.toInt32), x4, x5, x6, x7] := V27
  have K28 := Keep.wr K21 W26 (Or.inl (List.mem_of_getElem? (i := 0) rfl))
  refine own_aloadN X24 own_d1_16 (pc' := 17) rfl (v := (.ref a1)) rfl rfl ?_
  refine own_iconst X24 own_d1_17 (pc' := 18) rfl (z := (4 : Int32)) rfl ?_
  refine own_iloadN X24 own_d1_18 (pc' := 19) rfl (v := p2) rfl ?_
  refine own_bastore X24 V27 g_a1 (y := (p2.toInt8.toInt32)) rfl 4 rfl (by decide) (by decide) own_d1_19 (pc' := 20) rfl fun T29 h30 lc32 X31 W33 V34 => ?_
  replace V34 : own_V Z h30 a1 .byte (8 : Int32) [(p2.toInt8.toInt32), (p2.toInt8.toInt32), (p2.toInt8.toInt32), (p2.toInt8.toInt32), (p2.toInt8.toInt32), x5, x6, x7] := V34
  have K35 := Keep.wr K28 W33 (Or.inl (List.mem_of_getElem? (i := 0) rfl))
  refine own_aloadN X31 own_d1_20 (pc' := 21) rfl (v := (.ref a1)) rfl rfl ?_
  refine own_iconst X31 own_d1_21 (pc' := 22) rfl (z := (5 : Int32)) rfl ?_
  refine own_iloadN X31 own_d1_22 (pc' := 23) rfl (v := p2) rfl ?_
  refine own_bastore X31 V34 g_a1 (y := (p2.toInt8.toInt32)) rfl 5 rfl (by decide) (by decide) own_d1_23 (pc' := 24) rfl fun T36 h37 lc39 X38 W40 V41 => ?_
  replace V41 : own_V Z h37 a1 .byte (8 : Int32) [(p2.toInt8.toInt32), (p2.toInt8.toInt32), (p2.toInt8.toInt32), (p2.toInt8.toInt32), (p2.toInt8.toInt32), (p2.toInt8.toInt32), x6, x7] := V41
  have K42 := Keep.wr K35 W40 (Or.inl (List.mem_of_getElem? (i := 0) rfl))
  refine own_aloadN X38 own_d1_24 (pc' := 25) rfl (v := (.ref a1)) rfl rfl ?_
  refine own_bipush X38 own_d1_25 (pc' := 27) rfl (z := (6 : Int32)) rfl ?_
  refine own_iloadN X38 own_d1_27 (pc' := 28) rfl (v := p2) rfl ?_
  refine own_bastore X38 V41 g_a1 (y := (p2.toInt8.toInt32)) rfl 6 rfl (by decide) (by decide) own_d1_28 (pc' := 29) rfl fun T43 h44 lc46 X45 W47 V48 => ?_
  replace V48 : own_V Z h44 a1 .byte (8 : Int32) [(p2.toInt8.toInt32), (p2.toInt8.toInt32), (p2.toInt8.toInt32), (p2.toInt8.toInt32), (p2.toInt8.toInt32), (p2.toInt8.toInt32), (p2.toInt8.toInt32), x7] := V48
  have K49 := Keep.wr K42 W47 (Or.inl (List.mem_of_getElem? (i := 0) rfl))
  refine own_aloadN X45 own_d1_29 (pc' := 30) rfl (v := (.ref a1)) rfl rfl ?_
  refine own_bipush X45 own_d1_30 (pc' := 32) rfl (z := (7 : Int32)) rfl ?_
  refine own_iloadN X45 own_d1_32 (pc' := 33) rfl (v := p2) rfl ?_
  refine own_bastore X45 V48 g_a1 (y := (p2.toInt8.toInt32)) rfl 7 rfl (by decide) (by decide) own_d1_33 (pc' := 34) rfl fun T50 h51 lc53 X52 W54 V55 => ?_
  replace V55 : own_V Z h51 a1 .byte (8 : Int32) [(p2.toInt8.toInt32), (p2.toInt8.toInt32), (p2.toInt8.toInt32), (p2.toInt8.toInt32), (p2.toInt8.toInt32), (p2.toInt8.toInt32), (p2.toInt8.toInt32), (p2.toInt8.toInt32)] := V55
  have K56 := Keep.wr K49 W54 (Or.inl (List.mem_of_getElem? (i := 0) rfl))
  refine own_vret X52 hret own_d1_34 (by decide) (by decide) ?_
  exact ⟨rfl, K56, V55⟩
theorem own_d2_0 : decode prog_77_method_12_code 0 = .ok (.iload_n 0, 1) := by decide +kernel
theorem own_d2_1 : decode prog_77_method_12_code 1 = .ok (.sipush 128, 3) := by decide +kernel
theorem own_d2_4 : decode prog_77_method_12_code 4 = .ok (.if_icmp .ge 10, 3) := by decide +kernel
theorem own_d2_7 : decode prog_77_method_12_code 7 = .ok (.aload_n 1, 1) := by decide +kernel
theorem own_d2_8 : decode prog_77_method_12_code 8 = .ok (.iload_n 2, 1) := by decide +kernel
theorem own_d2_9 : decode prog_77_method_12_code 9 = .ok (.iload_n 0, 1) := by decide +kernel
theorem own_d2_10 : decode prog_77_method_12_code 10 = .ok (.i2b, 1) := by decide +kernel
theorem own_d2_11 : decode prog_77_method_12_code 11 = .ok (.bastore, 1) := by decide +kernel
theorem own_d2_12 : decode prog_77_method_12_code 12 = .ok (.iconst 1, 1) := by decide +kernel
theorem own_d2_13 : decode prog_77_method_12_code 13 = .ok (.ireturn, 1) := by decide +kernel
theorem own_d2_14 : decode prog_77_method_12_code 14 = .ok (.iload_n 0, 1) := by decide +kernel
theorem own_d2_15 : decode prog_77_method_12_code 15 = .ok (.sipush 2048, 3) := by decide +kernel
theorem own_d2_18 : decode prog_77_method_12_code 18 = .ok (.if_icmp .ge 7, 3) := by decide +kernel
theorem own_d2_21 : decode prog_77_method_12_code 21 = .ok (.iconst 2, 1) := by decide +kernel
theorem own_d2_22 : decode prog_77_method_12_code 22 = .ok (.goto 14, 3) := by decide +kernel
theorem own_d2_25 : decode prog_77_method_12_code 25 = .ok (.iload_n 0, 1) := by decide +kernel
theorem own_d2_26 : decode prog_77_method_12_code 26 = .ok (.ldc 171, 2) := by decide +kernel
theorem own_d2_28 : decode prog_77_method_12_code 28 = .ok (.if_icmp .gt 7, 3) := by decide +kernel
theorem own_d2_31 : decode prog_77_method_12_code 31 = .ok (.iconst 3, 1) := by decide +kernel
theorem own_d2_32 : decode prog_77_method_12_code 32 = .ok (.goto 4, 3) := by decide +kernel
theorem own_d2_35 : decode prog_77_method_12_code 35 = .ok (.iconst 4, 1) := by decide +kernel
theorem own_d2_36 : decode prog_77_method_12_code 36 = .ok (.istore_n 3, 1) := by decide +kernel
theorem own_d2_37 : decode prog_77_method_12_code 37 = .ok (.aload_n 1, 1) := by decide +kernel
theorem own_d2_38 : decode prog_77_method_12_code 38 = .ok (.iload_n 2, 1) := by decide +kernel
theorem own_d2_39 : decode prog_77_method_12_code 39 = .ok (.sipush 240, 3) := by decide +kernel
theorem own_d2_42 : decode prog_77_method_12_code 42 = .ok (.iconst 4, 1) := by decide +kernel
theorem own_d2_43 : decode prog_77_method_12_code 43 = .ok (.iload_n 3, 1) := by decide +kernel
theorem own_d2_44 : decode prog_77_method_12_code 44 = .ok (.isub, 1) := by decide +kernel
theorem own_d2_45 : decode prog_77_method_12_code 45 = .ok (.ishl, 1) := by decide +kernel
theorem own_d2_46 : decode prog_77_method_12_code 46 = .ok (.iload_n 0, 1) := by decide +kernel
theorem own_d2_47 : decode prog_77_method_12_code 47 = .ok (.bipush 6, 2) := by decide +kernel
theorem own_d2_49 : decode prog_77_method_12_code 49 = .ok (.iload_n 3, 1) := by decide +kernel
theorem own_d2_50 : decode prog_77_method_12_code 50 = .ok (.iconst 1, 1) := by decide +kernel
theorem own_d2_51 : decode prog_77_method_12_code 51 = .ok (.isub, 1) := by decide +kernel
theorem own_d2_52 : decode prog_77_method_12_code 52 = .ok (.imul, 1) := by decide +kernel
theorem own_d2_53 : decode prog_77_method_12_code 53 = .ok (.ishr, 1) := by decide +kernel
theorem own_d2_54 : decode prog_77_method_12_code 54 = .ok (.ior, 1) := by decide +kernel
theorem own_d2_55 : decode prog_77_method_12_code 55 = .ok (.i2b, 1) := by decide +kernel
theorem own_d2_56 : decode prog_77_method_12_code 56 = .ok (.bastore, 1) := by decide +kernel
theorem own_d2_57 : decode prog_77_method_12_code 57 = .ok (.iconst 1, 1) := by decide +kernel
theorem own_d2_58 : decode prog_77_method_12_code 58 = .ok (.istore 4, 2) := by decide +kernel
theorem own_d2_60 : decode prog_77_method_12_code 60 = .ok (.iload 4, 2) := by decide +kernel
theorem own_d2_62 : decode prog_77_method_12_code 62 = .ok (.iload_n 3, 1) := by decide +kernel
theorem own_d2_63 : decode prog_77_method_12_code 63 = .ok (.if_icmp .ge 34, 3) := by decide +kernel
theorem own_d2_66 : decode prog_77_method_12_code 66 = .ok (.aload_n 1, 1) := by decide +kernel
theorem own_d2_67 : decode prog_77_method_12_code 67 = .ok (.iload_n 2, 1) := by decide +kernel
theorem own_d2_68 : decode prog_77_method_12_code 68 = .ok (.iload 4, 2) := by decide +kernel
theorem own_d2_70 : decode prog_77_method_12_code 70 = .ok (.iadd, 1) := by decide +kernel
theorem own_d2_71 : decode prog_77_method_12_code 71 = .ok (.sipush 128, 3) := by decide +kernel
theorem own_d2_74 : decode prog_77_method_12_code 74 = .ok (.iload_n 0, 1) := by decide +kernel
theorem own_d2_75 : decode prog_77_method_12_code 75 = .ok (.bipush 6, 2) := by decide +kernel
theorem own_d2_77 : decode prog_77_method_12_code 77 = .ok (.iload_n 3, 1) := by decide +kernel
theorem own_d2_78 : decode prog_77_method_12_code 78 = .ok (.iconst 1, 1) := by decide +kernel
theorem own_d2_79 : decode prog_77_method_12_code 79 = .ok (.isub, 1) := by decide +kernel
theorem own_d2_80 : decode prog_77_method_12_code 80 = .ok (.iload 4, 2) := by decide +kernel
theorem own_d2_82 : decode prog_77_method_12_code 82 = .ok (.isub, 1) := by decide +kernel
theorem own_d2_83 : decode prog_77_method_12_code 83 = .ok (.imul, 1) := by decide +kernel
theorem own_d2_84 : decode prog_77_method_12_code 84 = .ok (.ishr, 1) := by decide +kernel
theorem own_d2_85 : decode prog_77_method_12_code 85 = .ok (.bipush 63, 2) := by decide +kernel
theorem own_d2_87 : decode prog_77_method_12_code 87 = .ok (.iand, 1) := by decide +kernel
theorem own_d2_88 : decode prog_77_method_12_code 88 = .ok (.ior, 1) := by decide +kernel
theorem own_d2_89 : decode prog_77_method_12_code 89 = .ok (.i2b, 1) := by decide +kernel
theorem own_d2_90 : decode prog_77_method_12_code 90 = .ok (.bastore, 1) := by decide +kernel
theorem own_d2_91 : decode prog_77_method_12_code 91 = .ok (.iinc 4 1, 3) := by decide +kernel
theorem own_d2_94 : decode prog_77_method_12_code 94 = .ok (.goto (-34), 3) := by decide +kernel
theorem own_d2_97 : decode prog_77_method_12_code 97 = .ok (.iload_n 3, 1) := by decide +kernel
theorem own_d2_98 : decode prog_77_method_12_code 98 = .ok (.ireturn, 1) := by decide +kernel
theorem own_ef2 (p1 : Int32) (a2 : Addr) (p3 : Int32) (m : MethodId) : entryFrame m #[(.int p1), (.ref a2), (.int p3)] 5 = mkF m 0 #[.val (.int p1), .val (.ref a2), .val (.int p3), .unset, .unset] [] := by first | (simp [entryFrame, mkF, argsToLocals, Value.category]; done) | rfl
theorem own_pf2 : plainFor (⟨"com/example/girolog/girolog/files/TextDecoder", "encode", "(I[BI)I"⟩ : MethodName) = true := by first | exact plainFor_of_name (by first | (simp [plainName, overriddenIn]; done) | decide +kernel) | decide +kernel
def own_v2_56 (p1 : Int32) : Int32 := (((960 : Int32) ||| (p1 >>> (6 : Int32))).toInt8.toInt32)
def own_v2_90 (p1 : Int32) : Int32 := (((128 : Int32) ||| ((p1 >>> (0 : Int32)) &&& (63 : Int32))).toInt8.toInt32)
def own_v2_56_1 (p1 : Int32) : Int32 := (((240 : Int32) ||| (p1 >>> (18 : Int32))).toInt8.toInt32)
def own_v2_90_1 (p1 : Int32) : Int32 := (((128 : Int32) ||| ((p1 >>> (12 : Int32)) &&& (63 : Int32))).toInt8.toInt32)
def own_v2_90_2 (p1 : Int32) : Int32 := (((128 : Int32) ||| ((p1 >>> (6 : Int32)) &&& (63 : Int32))).toInt8.toInt32)
def own_v2_56_2 (p1 : Int32) : Int32 := (((480 : Int32) ||| (p1 >>> (12 : Int32))).toInt8.toInt32)
def own_F2 (p1 : Int32) (xs_a2 : List Int32) (p3 : Int32) : Int32 := (if p1 < (128 : Int32) then (1 : Int32) else (if p1 < (2048 : Int32) then (2 : Int32) else (if (65535 : Int32) < p1 then (4 : Int32) else (3 : Int32))))
def own_F2_a2 (p1 : Int32) (xs_a2 : List Int32) (p3 : Int32) : List Int32 := (if p1 < (128 : Int32) then (List.set xs_a2 (p3.toNatClampNeg) (p1.toInt8.toInt32)) else (if p1 < (2048 : Int32) then (List.set (List.set xs_a2 (p3.toNatClampNeg) (own_v2_56 p1)) ((p3 + (1 : Int32)).toNatClampNeg) (own_v2_90 p1)) else (if (65535 : Int32) < p1 then (List.set (List.set (List.set (List.set xs_a2 (p3.toNatClampNeg) (own_v2_56_1 p1)) ((p3 + (1 : Int32)).toNatClampNeg) (own_v2_90_1 p1)) ((p3 + (2 : Int32)).toNatClampNeg) (own_v2_90_2 p1)) ((p3 + (3 : Int32)).toNatClampNeg) (own_v2_90 p1)) else (List.set (List.set (List.set xs_a2 (p3.toNatClampNeg) (own_v2_56_2 p1)) ((p3 + (1 : Int32)).toNatClampNeg) (own_v2_90_2 p1)) ((p3 + (2 : Int32)).toNatClampNeg) (own_v2_90 p1)))))
-- LEMMAS
theorem own_at {p k : Int32} (hp : ¬ p < (0 : Int32)) (hq : ¬ (3 : Int32) < p) (k0 : 0 ≤ k.toInt) (k1 : k.toInt ≤ 4) : (p + k).toInt = p.toInt + k.toInt ∧ ¬ p + k < 0 ∧ p + k < 8 := by
  have e0 : (0 : Int32).toInt = 0 := rfl
  have e3 : (3 : Int32).toInt = 3 := rfl
  have e6 : (8 : Int32).toInt = 8 := rfl
  simp only [own_lt, e0, e3, e6] at *
  have a : (p + k).toInt = p.toInt + k.toInt := own_AI rfl rfl (by omega) (by omega)
  exact ⟨a, by omega, by omega⟩
theorem own_at0 {p : Int32} (hq : ¬ (3 : Int32) < p) : p < 8 := by
  have e3 : (3 : Int32).toInt = 3 := rfl
  have e6 : (8 : Int32).toInt = 8 := rfl
  simp only [own_lt, e3, e6] at *; omega
-- END LEMMAS
set_option maxRecDepth 65536 in
set_option maxHeartbeats 40000000 in
theorem own_rm2 (l : Launch) (Z : State) (a0 : Array Value) (hw : ∀ d ∈ tables_1, d.before a0 Z = true) (p1 : Int32) (a2 : Addr) (xs_a2 : List Int32) (p3 : Int32) (h0 : Heap) (n0 : Nat) (Z0 : n0 ≤ h0.size) (V_a2 : own_V Z h0 a2 .byte (8 : Int32) xs_a2) (g_a2 : n0 ≤ a2) (hp : ¬ p3 < (0 : Int32)) (hq : ¬ (3 : Int32) < p3) :
    own_Con l Z (⟨"com/example/girolog/girolog/files/TextDecoder", "encode", "(I[BI)I"⟩ : MethodName) prog_77_method_12_code 5 (some .int) ({ frames := 0, cells := 0, slots := 0, locals := 0 } : Room) #[(.int p1), (.ref a2), (.int p3)] h0 n0 (fun v h => v = some (.int (own_F2 p1 xs_a2 p3)) ∧ Keep h0 h [a2] ∧ own_V Z h a2 .byte (8 : Int32) (own_F2_a2 p1 xs_a2 p3)) := by
  refine own_enter own_pf2 Z0 (own_ef2 p1 a2 p3) ?_
  intro p e s m below meth c T0 X0 hret hnm
  refine own_iloadN X0 own_d2_0 (pc' := 1) rfl (v := p1) rfl ?_
  refine own_sipush X0 own_d2_1 (pc' := 4) rfl (z := (128 : Int32)) rfl ?_
  by_cases hc1 : p1 < (128 : Int32)
  · refine own_icmpN X0 own_d2_4 (tlt hc1).2.1 (pc' := 7) rfl ?_
    refine own_aloadN X0 own_d2_7 (pc' := 8) rfl (v := (.ref a2)) rfl rfl ?_
    refine own_iloadN X0 own_d2_8 (pc' := 9) rfl (v := p3) rfl ?_
    refine own_iloadN X0 own_d2_9 (pc' := 10) rfl (v := p1) rfl ?_
    refine own_i2b X0 own_d2_10 (pc' := 11) rfl (z := (p1.toInt8.toInt32)) rfl ?_
    refine own_bastore X0 V_a2 g_a2 (y := (p1.toInt8.toInt32)) (own_nb _) (p3.toNatClampNeg) rfl hp (own_at0 hq) own_d2_11 (pc' := 12) rfl fun T2 h3 lc5 X4 W6 V7 => ?_
    have K8 := Keep.wr (Keep.refl h0 [a2]) W6 (Or.inl (List.mem_of_getElem? (i := 0) rfl))
    refine own_iconst X4 own_d2_12 (pc' := 13) rfl (z := (1 : Int32)) rfl ?_
    refine own_iret X4 (t := .int) (w := (1 : Int32)) hret (by simp) own_d2_13 rfl (by decide) (by decide) ?_
    exact ⟨congrArg (fun t => some (Value.int t)) (show (1 : Int32) = own_F2 p1 xs_a2 p3 from (by rw [own_F2, if_pos hc1])), K8, (V7.cast (show (List.set xs_a2 (p3.toNatClampNeg) (p1.toInt8.toInt32)) = own_F2_a2 p1 xs_a2 p3 from (by rw [own_F2_a2, if_pos hc1])))⟩
  · refine own_icmpY X0 own_d2_4 (flt hc1).2.1 (by decide) (pc' := 14) rfl ?_
    refine own_iloadN X0 own_d2_14 (pc' := 15) rfl (v := p1) rfl ?_
    refine own_sipush X0 own_d2_15 (pc' := 18) rfl (z := (2048 : Int32)) rfl ?_
    by_cases hc9 : p1 < (2048 : Int32)
    · refine own_icmpN X0 own_d2_18 (tlt hc9).2.1 (pc' := 21) rfl ?_
      refine own_iconst X0 own_d2_21 (pc' := 22) rfl (z := (2 : Int32)) rfl ?_
      refine own_goto X0 own_d2_22 (by decide) (pc' := 36) rfl ?_
      refine own_istoreN X0 own_d2_36 (pc' := 37) rfl (y := (2 : Int32)) rfl (Ls' := #[.val (.int p1), .val (.ref a2), .val (.int p3), .val (.int (2 : Int32)), .unset]) rfl ?_
      refine own_aloadN X0 own_d2_37 (pc' := 38) rfl (v := (.ref a2)) rfl rfl ?_
      refine own_iloadN X0 own_d2_38 (pc' := 39) rfl (v := p3) rfl ?_
      refine own_sipush X0 own_d2_39 (pc' := 42) rfl (z := (240 : Int32)) rfl ?_
      refine own_iconst X0 own_d2_42 (pc' := 43) rfl (z := (4 : Int32)) rfl ?_
      refine own_iloadN X0 own_d2_43 (pc' := 44) rfl (v := (2 : Int32)) rfl ?_
      refine own_isub X0 own_d2_44 (pc' := 45) rfl (z := (2 : Int32)) (by decide) ?_
      refine own_ishl X0 own_d2_45 (pc' := 46) rfl (z := (960 : Int32)) (by decide) ?_
      refine own_iloadN X0 own_d2_46 (pc' := 47) rfl (v := p1) rfl ?_
      refine own_bipush X0 own_d2_47 (pc' := 49) rfl (z := (6 : Int32)) rfl ?_
      refine own_iloadN X0 own_d2_49 (pc' := 50) rfl (v := (2 : Int32)) rfl ?_
      refine own_iconst X0 own_d2_50 (pc' := 51) rfl (z := (1 : Int32)) rfl ?_
      refine own_isub X0 own_d2_51 (pc' := 52) rfl (z := (1 : Int32)) (by decide) ?_
      refine own_imul X0 own_d2_52 (pc' := 53) rfl (z := (6 : Int32)) (by decide) ?_
      refine own_ishr X0 own_d2_53 (pc' := 54) rfl (z := (p1 >>> (6 : Int32))) rfl ?_
      refine own_ior X0 own_d2_54 (pc' := 55) rfl (z := ((960 : Int32) ||| (p1 >>> (6 : Int32)))) rfl ?_
      refine own_i2b X0 own_d2_55 (pc' := 56) rfl (z := (((960 : Int32) ||| (p1 >>> (6 : Int32))).toInt8.toInt32)) rfl ?_
      refine own_bastore X0 V_a2 g_a2 (y := (own_v2_56 p1)) (own_nb _) (p3.toNatClampNeg) rfl hp (own_at0 hq) own_d2_56 (pc' := 57) rfl fun T10 h11 lc13 X12 W14 V15 => ?_
      have K16 := Keep.wr (Keep.refl h0 [a2]) W14 (Or.inl (List.mem_of_getElem? (i := 0) rfl))
      refine own_iconst X12 own_d2_57 (pc' := 58) rfl (z := (1 : Int32)) rfl ?_
      refine own_istore X12 own_d2_58 (pc' := 60) rfl (y := (1 : Int32)) rfl (Ls' := #[.val (.int p1), .val (.ref a2), .val (.int p3), .val (.int (2 : Int32)), .val (.int (1 : Int32))]) rfl ?_
      refine own_iload X12 own_d2_60 (pc' := 62) rfl (v := (1 : Int32)) rfl ?_
      refine own_iloadN X12 own_d2_62 (pc' := 63) rfl (v := (2 : Int32)) rfl ?_
      have hk17 : (1 : Int32) < (2 : Int32) := (by decide)
      refine own_icmpN X12 own_d2_63 (tlt hk17).2.1 (pc' := 66) rfl ?_
      refine own_aloadN X12 own_d2_66 (pc' := 67) rfl (v := (.ref a2)) rfl rfl ?_
      refine own_iloadN X12 own_d2_67 (pc' := 68) rfl (v := p3) rfl ?_
      refine own_iload X12 own_d2_68 (pc' := 70) rfl (v := (1 : Int32)) rfl ?_
      refine own_iadd X12 own_d2_70 (pc' := 71) rfl (z := (p3 + (1 : Int32))) rfl ?_
      refine own_sipush X12 own_d2_71 (pc' := 74) rfl (z := (128 : Int32)) rfl ?_
      refine own_iloadN X12 own_d2_74 (pc' := 75) rfl (v := p1) rfl ?_
      refine own_bipush X12 own_d2_75 (pc' := 77) rfl (z := (6 : Int32)) rfl ?_
      refine own_iloadN X12 own_d2_77 (pc' := 78) rfl (v := (2 : Int32)) rfl ?_
      refine own_iconst X12 own_d2_78 (pc' := 79) rfl (z := (1 : Int32)) rfl ?_
      refine own_isub X12 own_d2_79 (pc' := 80) rfl (z := (1 : Int32)) (by decide) ?_
      refine own_iload X12 own_d2_80 (pc' := 82) rfl (v := (1 : Int32)) rfl ?_
      refine own_isub X12 own_d2_82 (pc' := 83) rfl (z := (0 : Int32)) (by decide) ?_
      refine own_imul X12 own_d2_83 (pc' := 84) rfl (z := (0 : Int32)) (by decide) ?_
      refine own_ishr X12 own_d2_84 (pc' := 85) rfl (z := (p1 >>> (0 : Int32))) rfl ?_
      refine own_bipush X12 own_d2_85 (pc' := 87) rfl (z := (63 : Int32)) rfl ?_
      refine own_iand X12 own_d2_87 (pc' := 88) rfl (z := ((p1 >>> (0 : Int32)) &&& (63 : Int32))) rfl ?_
      refine own_ior X12 own_d2_88 (pc' := 89) rfl (z := ((128 : Int32) ||| ((p1 >>> (0 : Int32)) &&& (63 : Int32)))) rfl ?_
      refine own_i2b X12 own_d2_89 (pc' := 90) rfl (z := (((128 : Int32) ||| ((p1 >>> (0 : Int32)) &&& (63 : Int32))).toInt8.toInt32)) rfl ?_
      refine own_bastore X12 V15 g_a2 (y := (own_v2_90 p1)) (own_nb _) ((p3 + (1 : Int32)).toNatClampNeg) rfl (own_at hp hq (by decide) (by decide)).2.1 (own_at hp hq (by decide) (by decide)).2.2 own_d2_90 (pc' := 91) rfl fun T18 h19 lc21 X20 W22 V23 => ?_
      have K24 := Keep.wr K16 W22 (Or.inl (List.mem_of_getElem? (i := 0) rfl))
      refine own_iinc X20 own_d2_91 (pc' := 94) rfl (x := (1 : Int32)) rfl (z := (2 : Int32)) (by decide) (Ls' := #[.val (.int p1), .val (.ref a2), .val (.int p3), .val (.int (2 : Int32)), .val (.int (2 : Int32))]) rfl ?_
      refine own_goto X20 own_d2_94 (by decide) (pc' := 60) rfl ?_
      refine own_iload X20 own_d2_60 (pc' := 62) rfl (v := (2 : Int32)) rfl ?_
      refine own_iloadN X20 own_d2_62 (pc' := 63) rfl (v := (2 : Int32)) rfl ?_
      have hk25 : ¬ ((2 : Int32) < (2 : Int32)) := (by decide)
      refine own_icmpY X20 own_d2_63 (flt hk25).2.1 (by decide) (pc' := 97) rfl ?_
      refine own_iloadN X20 own_d2_97 (pc' := 98) rfl (v := (2 : Int32)) rfl ?_
      refine own_iret X20 (t := .int) (w := (2 : Int32)) hret (by simp) own_d2_98 rfl (by decide) (by decide) ?_
      exact ⟨congrArg (fun t => some (Value.int t)) (show (2 : Int32) = own_F2 p1 xs_a2 p3 from (by rw [own_F2, if_neg hc1, if_pos hc9])), K24, (V23.cast (show (List.set (List.set xs_a2 (p3.toNatClampNeg) (own_v2_56 p1)) ((p3 + (1 : Int32)).toNatClampNeg) (own_v2_90 p1)) = own_F2_a2 p1 xs_a2 p3 from (by rw [own_F2_a2, if_neg hc1, if_pos hc9])))⟩
    · refine own_icmpY X0 own_d2_18 (flt hc9).2.1 (by decide) (pc' := 25) rfl ?_
      refine own_iloadN X0 own_d2_25 (pc' := 26) rfl (v := p1) rfl ?_
      refine own_ldc X0 (hw _ (List.mem_of_getElem? (i := 15) rfl)) own_d2_26 (pc' := 28) rfl ?_
      by_cases hc26 : (65535 : Int32) < p1
      · refine own_icmpY X0 own_d2_28 (tlt hc26).2.2.1 (by decide) (pc' := 35) rfl ?_
        refine own_iconst X0 own_d2_35 (pc' := 36) rfl (z := (4 : Int32)) rfl ?_
        refine own_istoreN X0 own_d2_36 (pc' := 37) rfl (y := (4 : Int32)) rfl (Ls' := #[.val (.int p1), .val (.ref a2), .val (.int p3), .val (.int (4 : Int32)), .unset]) rfl ?_
        refine own_aloadN X0 own_d2_37 (pc' := 38) rfl (v := (.ref a2)) rfl rfl ?_
        refine own_iloadN X0 own_d2_38 (pc' := 39) rfl (v := p3) rfl ?_
        refine own_sipush X0 own_d2_39 (pc' := 42) rfl (z := (240 : Int32)) rfl ?_
        refine own_iconst X0 own_d2_42 (pc' := 43) rfl (z := (4 : Int32)) rfl ?_
        refine own_iloadN X0 own_d2_43 (pc' := 44) rfl (v := (4 : Int32)) rfl ?_
        refine own_isub X0 own_d2_44 (pc' := 45) rfl (z := (0 : Int32)) (by decide) ?_
        refine own_ishl X0 own_d2_45 (pc' := 46) rfl (z := (240 : Int32)) (by decide) ?_
        refine own_iloadN X0 own_d2_46 (pc' := 47) rfl (v := p1) rfl ?_
        refine own_bipush X0 own_d2_47 (pc' := 49) rfl (z := (6 : Int32)) rfl ?_
        refine own_iloadN X0 own_d2_49 (pc' := 50) rfl (v := (4 : Int32)) rfl ?_
        refine own_iconst X0 own_d2_50 (pc' := 51) rfl (z := (1 : Int32)) rfl ?_
        refine own_isub X0 own_d2_51 (pc' := 52) rfl (z := (3 : Int32)) (by decide) ?_
        refine own_imul X0 own_d2_52 (pc' := 53) rfl (z := (18 : Int32)) (by decide) ?_
        refine own_ishr X0 own_d2_53 (pc' := 54) rfl (z := (p1 >>> (18 : Int32))) rfl ?_
        refine own_ior X0 own_d2_54 (pc' := 55) rfl (z := ((240 : Int32) ||| (p1 >>> (18 : Int32)))) rfl ?_
        refine own_i2b X0 own_d2_55 (pc' := 56) rfl (z := (((240 : Int32) ||| (p1 >>> (18 : Int32))).toInt8.toInt32)) rfl ?_
        refine own_bastore X0 V_a2 g_a2 (y := (own_v2_56_1 p1)) (own_nb _) (p3.toNatClampNeg) rfl hp (own_at0 hq) own_d2_56 (pc' := 57) rfl fun T27 h28 lc30 X29 W31 V32 => ?_
        have K33 := Keep.wr (Keep.refl h0 [a2]) W31 (Or.inl (List.mem_of_getElem? (i := 0) rfl))
        refine own_iconst X29 own_d2_57 (pc' := 58) rfl (z := (1 : Int32)) rfl ?_
        refine own_istore X29 own_d2_58 (pc' := 60) rfl (y := (1 : Int32)) rfl (Ls' := #[.val (.int p1), .val (.ref a2), .val (.int p3), .val (.int (4 : Int32)), .val (.int (1 : Int32))]) rfl ?_
        refine own_iload X29 own_d2_60 (pc' := 62) rfl (v := (1 : Int32)) rfl ?_
        refine own_iloadN X29 own_d2_62 (pc' := 63) rfl (v := (4 : Int32)) rfl ?_
        have hk34 : (1 : Int32) < (4 : Int32) := (by decide)
        refine own_icmpN X29 own_d2_63 (tlt hk34).2.1 (pc' := 66) rfl ?_
        refine own_aloadN X29 own_d2_66 (pc' := 67) rfl (v := (.ref a2)) rfl rfl ?_
        refine own_iloadN X29 own_d2_67 (pc' := 68) rfl (v := p3) rfl ?_
        refine own_iload X29 own_d2_68 (pc' := 70) rfl (v := (1 : Int32)) rfl ?_
        refine own_iadd X29 own_d2_70 (pc' := 71) rfl (z := (p3 + (1 : Int32))) rfl ?_
        refine own_sipush X29 own_d2_71 (pc' := 74) rfl (z := (128 : Int32)) rfl ?_
        refine own_iloadN X29 own_d2_74 (pc' := 75) rfl (v := p1) rfl ?_
        refine own_bipush X29 own_d2_75 (pc' := 77) rfl (z := (6 : Int32)) rfl ?_
        refine own_iloadN X29 own_d2_77 (pc' := 78) rfl (v := (4 : Int32)) rfl ?_
        refine own_iconst X29 own_d2_78 (pc' := 79) rfl (z := (1 : Int32)) rfl ?_
        refine own_isub X29 own_d2_79 (pc' := 80) rfl (z := (3 : Int32)) (by decide) ?_
        refine own_iload X29 own_d2_80 (pc' := 82) rfl (v := (1 : Int32)) rfl ?_
        refine own_isub X29 own_d2_82 (pc' := 83) rfl (z := (2 : Int32)) (by decide) ?_
        refine own_imul X29 own_d2_83 (pc' := 84) rfl (z := (12 : Int32)) (by decide) ?_
        refine own_ishr X29 own_d2_84 (pc' := 85) rfl (z := (p1 >>> (12 : Int32))) rfl ?_
        refine own_bipush X29 own_d2_85 (pc' := 87) rfl (z := (63 : Int32)) rfl ?_
        refine own_iand X29 own_d2_87 (pc' := 88) rfl (z := ((p1 >>> (12 : Int32)) &&& (63 : Int32))) rfl ?_
        refine own_ior X29 own_d2_88 (pc' := 89) rfl (z := ((128 : Int32) ||| ((p1 >>> (12 : Int32)) &&& (63 : Int32)))) rfl ?_
        refine own_i2b X29 own_d2_89 (pc' := 90) rfl (z := (((128 : Int32) ||| ((p1 >>> (12 : Int32)) &&& (63 : Int32))).toInt8.toInt32)) rfl ?_
        refine own_bastore X29 V32 g_a2 (y := (own_v2_90_1 p1)) (own_nb _) ((p3 + (1 : Int32)).toNatClampNeg) rfl (own_at hp hq (by decide) (by decide)).2.1 (own_at hp hq (by decide) (by decide)).2.2 own_d2_90 (pc' := 91) rfl fun T35 h36 lc38 X37 W39 V40 => ?_
        have K41 := Keep.wr K33 W39 (Or.inl (List.mem_of_getElem? (i := 0) rfl))
        refine own_iinc X37 own_d2_91 (pc' := 94) rfl (x := (1 : Int32)) rfl (z := (2 : Int32)) (by decide) (Ls' := #[.val (.int p1), .val (.ref a2), .val (.int p3), .val (.int (4 : Int32)), .val (.int (2 : Int32))]) rfl ?_
        refine own_goto X37 own_d2_94 (by decide) (pc' := 60) rfl ?_
        refine own_iload X37 own_d2_60 (pc' := 62) rfl (v := (2 : Int32)) rfl ?_
        refine own_iloadN X37 own_d2_62 (pc' := 63) rfl (v := (4 : Int32)) rfl ?_
        have hk42 : (2 : Int32) < (4 : Int32) := (by decide)
        refine own_icmpN X37 own_d2_63 (tlt hk42).2.1 (pc' := 66) rfl ?_
        refine own_aloadN X37 own_d2_66 (pc' := 67) rfl (v := (.ref a2)) rfl rfl ?_
        refine own_iloadN X37 own_d2_67 (pc' := 68) rfl (v := p3) rfl ?_
        refine own_iload X37 own_d2_68 (pc' := 70) rfl (v := (2 : Int32)) rfl ?_
        refine own_iadd X37 own_d2_70 (pc' := 71) rfl (z := (p3 + (2 : Int32))) rfl ?_
        refine own_sipush X37 own_d2_71 (pc' := 74) rfl (z := (128 : Int32)) rfl ?_
        refine own_iloadN X37 own_d2_74 (pc' := 75) rfl (v := p1) rfl ?_
        refine own_bipush X37 own_d2_75 (pc' := 77) rfl (z := (6 : Int32)) rfl ?_
        refine own_iloadN X37 own_d2_77 (pc' := 78) rfl (v := (4 : Int32)) rfl ?_
        refine own_iconst X37 own_d2_78 (pc' := 79) rfl (z := (1 : Int32)) rfl ?_
        refine own_isub X37 own_d2_79 (pc' := 80) rfl (z := (3 : Int32)) (by decide) ?_
        refine own_iload X37 own_d2_80 (pc' := 82) rfl (v := (2 : Int32)) rfl ?_
        refine own_isub X37 own_d2_82 (pc' := 83) rfl (z := (1 : Int32)) (by decide) ?_
        refine own_imul X37 own_d2_83 (pc' := 84) rfl (z := (6 : Int32)) (by decide) ?_
        refine own_ishr X37 own_d2_84 (pc' := 85) rfl (z := (p1 >>> (6 : Int32))) rfl ?_
        refine own_bipush X37 own_d2_85 (pc' := 87) rfl (z := (63 : Int32)) rfl ?_
        refine own_iand X37 own_d2_87 (pc' := 88) rfl (z := ((p1 >>> (6 : Int32)) &&& (63 : Int32))) rfl ?_
        refine own_ior X37 own_d2_88 (pc' := 89) rfl (z := ((128 : Int32) ||| ((p1 >>> (6 : Int32)) &&& (63 : Int32)))) rfl ?_
        refine own_i2b X37 own_d2_89 (pc' := 90) rfl (z := (((128 : Int32) ||| ((p1 >>> (6 : Int32)) &&& (63 : Int32))).toInt8.toInt32)) rfl ?_
        refine own_bastore X37 V40 g_a2 (y := (own_v2_90_2 p1)) (own_nb _) ((p3 + (2 : Int32)).toNatClampNeg) rfl (own_at hp hq (by decide) (by decide)).2.1 (own_at hp hq (by decide) (by decide)).2.2 own_d2_90 (pc' := 91) rfl fun T43 h44 lc46 X45 W47 V48 => ?_
        have K49 := Keep.wr K41 W47 (Or.inl (List.mem_of_getElem? (i := 0) rfl))
        refine own_iinc X45 own_d2_91 (pc' := 94) rfl (x := (2 : Int32)) rfl (z := (3 : Int32)) (by decide) (Ls' := #[.val (.int p1), .val (.ref a2), .val (.int p3), .val (.int (4 : Int32)), .val (.int (3 : Int32))]) rfl ?_
        refine own_goto X45 own_d2_94 (by decide) (pc' := 60) rfl ?_
        refine own_iload X45 own_d2_60 (pc' := 62) rfl (v := (3 : Int32)) rfl ?_
        refine own_iloadN X45 own_d2_62 (pc' := 63) rfl (v := (4 : Int32)) rfl ?_
        have hk50 : (3 : Int32) < (4 : Int32) := (by decide)
        refine own_icmpN X45 own_d2_63 (tlt hk50).2.1 (pc' := 66) rfl ?_
        refine own_aloadN X45 own_d2_66 (pc' := 67) rfl (v := (.ref a2)) rfl rfl ?_
        refine own_iloadN X45 own_d2_67 (pc' := 68) rfl (v := p3) rfl ?_
        refine own_iload X45 own_d2_68 (pc' := 70) rfl (v := (3 : Int32)) rfl ?_
        refine own_iadd X45 own_d2_70 (pc' := 71) rfl (z := (p3 + (3 : Int32))) rfl ?_
        refine own_sipush X45 own_d2_71 (pc' := 74) rfl (z := (128 : Int32)) rfl ?_
        refine own_iloadN X45 own_d2_74 (pc' := 75) rfl (v := p1) rfl ?_
        refine own_bipush X45 own_d2_75 (pc' := 77) rfl (z := (6 : Int32)) rfl ?_
        refine own_iloadN X45 own_d2_77 (pc' := 78) rfl (v := (4 : Int32)) rfl ?_
        refine own_iconst X45 own_d2_78 (pc' := 79) rfl (z := (1 : Int32)) rfl ?_
        refine own_isub X45 own_d2_79 (pc' := 80) rfl (z := (3 : Int32)) (by decide) ?_
        refine own_iload X45 own_d2_80 (pc' := 82) rfl (v := (3 : Int32)) rfl ?_
        refine own_isub X45 own_d2_82 (pc' := 83) rfl (z := (0 : Int32)) (by decide) ?_
        refine own_imul X45 own_d2_83 (pc' := 84) rfl (z := (0 : Int32)) (by decide) ?_
        refine own_ishr X45 own_d2_84 (pc' := 85) rfl (z := (p1 >>> (0 : Int32))) rfl ?_
        refine own_bipush X45 own_d2_85 (pc' := 87) rfl (z := (63 : Int32)) rfl ?_
        refine own_iand X45 own_d2_87 (pc' := 88) rfl (z := ((p1 >>> (0 : Int32)) &&& (63 : Int32))) rfl ?_
        refine own_ior X45 own_d2_88 (pc' := 89) rfl (z := ((128 : Int32) ||| ((p1 >>> (0 : Int32)) &&& (63 : Int32)))) rfl ?_
        refine own_i2b X45 own_d2_89 (pc' := 90) rfl (z := (((128 : Int32) ||| ((p1 >>> (0 : Int32)) &&& (63 : Int32))).toInt8.toInt32)) rfl ?_
        refine own_bastore X45 V48 g_a2 (y := (own_v2_90 p1)) (own_nb _) ((p3 + (3 : Int32)).toNatClampNeg) rfl (own_at hp hq (by decide) (by decide)).2.1 (own_at hp hq (by decide) (by decide)).2.2 own_d2_90 (pc' := 91) rfl fun T51 h52 lc54 X53 W55 V56 => ?_
        have K57 := Keep.wr K49 W55 (Or.inl (List.mem_of_getElem? (i := 0) rfl))
        refine own_iinc X53 own_d2_91 (pc' := 94) rfl (x := (3 : Int32)) rfl (z := (4 : Int32)) (by decide) (Ls' := #[.val (.int p1), .val (.ref a2), .val (.int p3), .val (.int (4 : Int32)), .val (.int (4 : Int32))]) rfl ?_
        refine own_goto X53 own_d2_94 (by decide) (pc' := 60) rfl ?_
        refine own_iload X53 own_d2_60 (pc' := 62) rfl (v := (4 : Int32)) rfl ?_
        refine own_iloadN X53 own_d2_62 (pc' := 63) rfl (v := (4 : Int32)) rfl ?_
        have hk58 : ¬ ((4 : Int32) < (4 : Int32)) := (by decide)
        refine own_icmpY X53 own_d2_63 (flt hk58).2.1 (by decide) (pc' := 97) rfl ?_
        refine own_iloadN X53 own_d2_97 (pc' := 98) rfl (v := (4 : Int32)) rfl ?_
        refine own_iret X53 (t := .int) (w := (4 : Int32)) hret (by simp) own_d2_98 rfl (by decide) (by decide) ?_
        exact ⟨congrArg (fun t => some (Value.int t)) (show (4 : Int32) = own_F2 p1 xs_a2 p3 from (by rw [own_F2, if_neg hc1, if_neg hc9, if_pos hc26])), K57, (V56.cast (show (List.set (List.set (List.set (List.set xs_a2 (p3.toNatClampNeg) (own_v2_56_1 p1)) ((p3 + (1 : Int32)).toNatClampNeg) (own_v2_90_1 p1)) ((p3 + (2 : Int32)).toNatClampNeg) (own_v2_90_2 p1)) ((p3 + (3 : Int32)).toNatClampNeg) (own_v2_90 p1)) = own_F2_a2 p1 xs_a2 p3 from (by rw [own_F2_a2, if_neg hc1, if_neg hc9, if_pos hc26])))⟩
      · refine own_icmpN X0 own_d2_28 (flt hc26).2.2.1 (pc' := 31) rfl ?_
        refine own_iconst X0 own_d2_31 (pc' := 32) rfl (z := (3 : Int32)) rfl ?_
        refine own_goto X0 own_d2_32 (by decide) (pc' := 36) rfl ?_
        refine own_istoreN X0 own_d2_36 (pc' := 37) rfl (y := (3 : Int32)) rfl (Ls' := #[.val (.int p1), .val (.ref a2), .val (.int p3), .val (.int (3 : Int32)), .unset]) rfl ?_
        refine own_aloadN X0 own_d2_37 (pc' := 38) rfl (v := (.ref a2)) rfl rfl ?_
        refine own_iloadN X0 own_d2_38 (pc' := 39) rfl (v := p3) rfl ?_
        refine own_sipush X0 own_d2_39 (pc' := 42) rfl (z := (240 : Int32)) rfl ?_
        refine own_iconst X0 own_d2_42 (pc' := 43) rfl (z := (4 : Int32)) rfl ?_
        refine own_iloadN X0 own_d2_43 (pc' := 44) rfl (v := (3 : Int32)) rfl ?_
        refine own_isub X0 own_d2_44 (pc' := 45) rfl (z := (1 : Int32)) (by decide) ?_
        refine own_ishl X0 own_d2_45 (pc' := 46) rfl (z := (480 : Int32)) (by decide) ?_
        refine own_iloadN X0 own_d2_46 (pc' := 47) rfl (v := p1) rfl ?_
        refine own_bipush X0 own_d2_47 (pc' := 49) rfl (z := (6 : Int32)) rfl ?_
        refine own_iloadN X0 own_d2_49 (pc' := 50) rfl (v := (3 : Int32)) rfl ?_
        refine own_iconst X0 own_d2_50 (pc' := 51) rfl (z := (1 : Int32)) rfl ?_
        refine own_isub X0 own_d2_51 (pc' := 52) rfl (z := (2 : Int32)) (by decide) ?_
        refine own_imul X0 own_d2_52 (pc' := 53) rfl (z := (12 : Int32)) (by decide) ?_
        refine own_ishr X0 own_d2_53 (pc' := 54) rfl (z := (p1 >>> (12 : Int32))) rfl ?_
        refine own_ior X0 own_d2_54 (pc' := 55) rfl (z := ((480 : Int32) ||| (p1 >>> (12 : Int32)))) rfl ?_
        refine own_i2b X0 own_d2_55 (pc' := 56) rfl (z := (((480 : Int32) ||| (p1 >>> (12 : Int32))).toInt8.toInt32)) rfl ?_
        refine own_bastore X0 V_a2 g_a2 (y := (own_v2_56_2 p1)) (own_nb _) (p3.toNatClampNeg) rfl hp (own_at0 hq) own_d2_56 (pc' := 57) rfl fun T59 h60 lc62 X61 W63 V64 => ?_
        have K65 := Keep.wr (Keep.refl h0 [a2]) W63 (Or.inl (List.mem_of_getElem? (i := 0) rfl))
        refine own_iconst X61 own_d2_57 (pc' := 58) rfl (z := (1 : Int32)) rfl ?_
        refine own_istore X61 own_d2_58 (pc' := 60) rfl (y := (1 : Int32)) rfl (Ls' := #[.val (.int p1), .val (.ref a2), .val (.int p3), .val (.int (3 : Int32)), .val (.int (1 : Int32))]) rfl ?_
        refine own_iload X61 own_d2_60 (pc' := 62) rfl (v := (1 : Int32)) rfl ?_
        refine own_iloadN X61 own_d2_62 (pc' := 63) rfl (v := (3 : Int32)) rfl ?_
        have hk66 : (1 : Int32) < (3 : Int32) := (by decide)
        refine own_icmpN X61 own_d2_63 (tlt hk66).2.1 (pc' := 66) rfl ?_
        refine own_aloadN X61 own_d2_66 (pc' := 67) rfl (v := (.ref a2)) rfl rfl ?_
        refine own_iloadN X61 own_d2_67 (pc' := 68) rfl (v := p3) rfl ?_
        refine own_iload X61 own_d2_68 (pc' := 70) rfl (v := (1 : Int32)) rfl ?_
        refine own_iadd X61 own_d2_70 (pc' := 71) rfl (z := (p3 + (1 : Int32))) rfl ?_
        refine own_sipush X61 own_d2_71 (pc' := 74) rfl (z := (128 : Int32)) rfl ?_
        refine own_iloadN X61 own_d2_74 (pc' := 75) rfl (v := p1) rfl ?_
        refine own_bipush X61 own_d2_75 (pc' := 77) rfl (z := (6 : Int32)) rfl ?_
        refine own_iloadN X61 own_d2_77 (pc' := 78) rfl (v := (3 : Int32)) rfl ?_
        refine own_iconst X61 own_d2_78 (pc' := 79) rfl (z := (1 : Int32)) rfl ?_
        refine own_isub X61 own_d2_79 (pc' := 80) rfl (z := (2 : Int32)) (by decide) ?_
        refine own_iload X61 own_d2_80 (pc' := 82) rfl (v := (1 : Int32)) rfl ?_
        refine own_isub X61 own_d2_82 (pc' := 83) rfl (z := (1 : Int32)) (by decide) ?_
        refine own_imul X61 own_d2_83 (pc' := 84) rfl (z := (6 : Int32)) (by decide) ?_
        refine own_ishr X61 own_d2_84 (pc' := 85) rfl (z := (p1 >>> (6 : Int32))) rfl ?_
        refine own_bipush X61 own_d2_85 (pc' := 87) rfl (z := (63 : Int32)) rfl ?_
        refine own_iand X61 own_d2_87 (pc' := 88) rfl (z := ((p1 >>> (6 : Int32)) &&& (63 : Int32))) rfl ?_
        refine own_ior X61 own_d2_88 (pc' := 89) rfl (z := ((128 : Int32) ||| ((p1 >>> (6 : Int32)) &&& (63 : Int32)))) rfl ?_
        refine own_i2b X61 own_d2_89 (pc' := 90) rfl (z := (((128 : Int32) ||| ((p1 >>> (6 : Int32)) &&& (63 : Int32))).toInt8.toInt32)) rfl ?_
        refine own_bastore X61 V64 g_a2 (y := (own_v2_90_2 p1)) (own_nb _) ((p3 + (1 : Int32)).toNatClampNeg) rfl (own_at hp hq (by decide) (by decide)).2.1 (own_at hp hq (by decide) (by decide)).2.2 own_d2_90 (pc' := 91) rfl fun T67 h68 lc70 X69 W71 V72 => ?_
        have K73 := Keep.wr K65 W71 (Or.inl (List.mem_of_getElem? (i := 0) rfl))
        refine own_iinc X69 own_d2_91 (pc' := 94) rfl (x := (1 : Int32)) rfl (z := (2 : Int32)) (by decide) (Ls' := #[.val (.int p1), .val (.ref a2), .val (.int p3), .val (.int (3 : Int32)), .val (.int (2 : Int32))]) rfl ?_
        refine own_goto X69 own_d2_94 (by decide) (pc' := 60) rfl ?_
        refine own_iload X69 own_d2_60 (pc' := 62) rfl (v := (2 : Int32)) rfl ?_
        refine own_iloadN X69 own_d2_62 (pc' := 63) rfl (v := (3 : Int32)) rfl ?_
        have hk74 : (2 : Int32) < (3 : Int32) := (by decide)
        refine own_icmpN X69 own_d2_63 (tlt hk74).2.1 (pc' := 66) rfl ?_
        refine own_aloadN X69 own_d2_66 (pc' := 67) rfl (v := (.ref a2)) rfl rfl ?_
        refine own_iloadN X69 own_d2_67 (pc' := 68) rfl (v := p3) rfl ?_
        refine own_iload X69 own_d2_68 (pc' := 70) rfl (v := (2 : Int32)) rfl ?_
        refine own_iadd X69 own_d2_70 (pc' := 71) rfl (z := (p3 + (2 : Int32))) rfl ?_
        refine own_sipush X69 own_d2_71 (pc' := 74) rfl (z := (128 : Int32)) rfl ?_
        refine own_iloadN X69 own_d2_74 (pc' := 75) rfl (v := p1) rfl ?_
        refine own_bipush X69 own_d2_75 (pc' := 77) rfl (z := (6 : Int32)) rfl ?_
        refine own_iloadN X69 own_d2_77 (pc' := 78) rfl (v := (3 : Int32)) rfl ?_
        refine own_iconst X69 own_d2_78 (pc' := 79) rfl (z := (1 : Int32)) rfl ?_
        refine own_isub X69 own_d2_79 (pc' := 80) rfl (z := (2 : Int32)) (by decide) ?_
        refine own_iload X69 own_d2_80 (pc' := 82) rfl (v := (2 : Int32)) rfl ?_
        refine own_isub X69 own_d2_82 (pc' := 83) rfl (z := (0 : Int32)) (by decide) ?_
        refine own_imul X69 own_d2_83 (pc' := 84) rfl (z := (0 : Int32)) (by decide) ?_
        refine own_ishr X69 own_d2_84 (pc' := 85) rfl (z := (p1 >>> (0 : Int32))) rfl ?_
        refine own_bipush X69 own_d2_85 (pc' := 87) rfl (z := (63 : Int32)) rfl ?_
        refine own_iand X69 own_d2_87 (pc' := 88) rfl (z := ((p1 >>> (0 : Int32)) &&& (63 : Int32))) rfl ?_
        refine own_ior X69 own_d2_88 (pc' := 89) rfl (z := ((128 : Int32) ||| ((p1 >>> (0 : Int32)) &&& (63 : Int32)))) rfl ?_
        refine own_i2b X69 own_d2_89 (pc' := 90) rfl (z := (((128 : Int32) ||| ((p1 >>> (0 : Int32)) &&& (63 : Int32))).toInt8.toInt32)) rfl ?_
        refine own_bastore X69 V72 g_a2 (y := (own_v2_90 p1)) (own_nb _) ((p3 + (2 : Int32)).toNatClampNeg) rfl (own_at hp hq (by decide) (by decide)).2.1 (own_at hp hq (by decide) (by decide)).2.2 own_d2_90 (pc' := 91) rfl fun T75 h76 lc78 X77 W79 V80 => ?_
        have K81 := Keep.wr K73 W79 (Or.inl (List.mem_of_getElem? (i := 0) rfl))
        refine own_iinc X77 own_d2_91 (pc' := 94) rfl (x := (2 : Int32)) rfl (z := (3 : Int32)) (by decide) (Ls' := #[.val (.int p1), .val (.ref a2), .val (.int p3), .val (.int (3 : Int32)), .val (.int (3 : Int32))]) rfl ?_
        refine own_goto X77 own_d2_94 (by decide) (pc' := 60) rfl ?_
        refine own_iload X77 own_d2_60 (pc' := 62) rfl (v := (3 : Int32)) rfl ?_
        refine own_iloadN X77 own_d2_62 (pc' := 63) rfl (v := (3 : Int32)) rfl ?_
        have hk82 : ¬ ((3 : Int32) < (3 : Int32)) := (by decide)
        refine own_icmpY X77 own_d2_63 (flt hk82).2.1 (by decide) (pc' := 97) rfl ?_
        refine own_iloadN X77 own_d2_97 (pc' := 98) rfl (v := (3 : Int32)) rfl ?_
        refine own_iret X77 (t := .int) (w := (3 : Int32)) hret (by simp) own_d2_98 rfl (by decide) (by decide) ?_
        exact ⟨congrArg (fun t => some (Value.int t)) (show (3 : Int32) = own_F2 p1 xs_a2 p3 from (by rw [own_F2, if_neg hc1, if_neg hc9, if_neg hc26])), K81, (V80.cast (show (List.set (List.set (List.set xs_a2 (p3.toNatClampNeg) (own_v2_56_2 p1)) ((p3 + (1 : Int32)).toNatClampNeg) (own_v2_90_2 p1)) ((p3 + (2 : Int32)).toNatClampNeg) (own_v2_90 p1)) = own_F2_a2 p1 xs_a2 p3 from (by rw [own_F2_a2, if_neg hc1, if_neg hc9, if_neg hc26])))⟩
theorem own_d3_0 : decode method_4_code 0 = .ok (.aload_n 0, 1) := by decide +kernel
theorem own_d3_1 : decode method_4_code 1 = .ok (.iconst 0, 1) := by decide +kernel
theorem own_d3_2 : decode method_4_code 2 = .ok (.baload, 1) := by decide +kernel
theorem own_d3_3 : decode method_4_code 3 = .ok (.aload_n 1, 1) := by decide +kernel
theorem own_d3_4 : decode method_4_code 4 = .ok (.iconst 0, 1) := by decide +kernel
theorem own_d3_5 : decode method_4_code 5 = .ok (.baload, 1) := by decide +kernel
theorem own_d3_6 : decode method_4_code 6 = .ok (.if_icmp .ne 74, 3) := by decide +kernel
theorem own_d3_9 : decode method_4_code 9 = .ok (.aload_n 0, 1) := by decide +kernel
theorem own_d3_10 : decode method_4_code 10 = .ok (.iconst 1, 1) := by decide +kernel
theorem own_d3_11 : decode method_4_code 11 = .ok (.baload, 1) := by decide +kernel
theorem own_d3_12 : decode method_4_code 12 = .ok (.aload_n 1, 1) := by decide +kernel
theorem own_d3_13 : decode method_4_code 13 = .ok (.iconst 1, 1) := by decide +kernel
theorem own_d3_14 : decode method_4_code 14 = .ok (.baload, 1) := by decide +kernel
theorem own_d3_15 : decode method_4_code 15 = .ok (.if_icmp .ne 65, 3) := by decide +kernel
theorem own_d3_18 : decode method_4_code 18 = .ok (.aload_n 0, 1) := by decide +kernel
theorem own_d3_19 : decode method_4_code 19 = .ok (.iconst 2, 1) := by decide +kernel
theorem own_d3_20 : decode method_4_code 20 = .ok (.baload, 1) := by decide +kernel
theorem own_d3_21 : decode method_4_code 21 = .ok (.aload_n 1, 1) := by decide +kernel
theorem own_d3_22 : decode method_4_code 22 = .ok (.iconst 2, 1) := by decide +kernel
theorem own_d3_23 : decode method_4_code 23 = .ok (.baload, 1) := by decide +kernel
theorem own_d3_24 : decode method_4_code 24 = .ok (.if_icmp .ne 56, 3) := by decide +kernel
theorem own_d3_27 : decode method_4_code 27 = .ok (.aload_n 0, 1) := by decide +kernel
theorem own_d3_28 : decode method_4_code 28 = .ok (.iconst 3, 1) := by decide +kernel
theorem own_d3_29 : decode method_4_code 29 = .ok (.baload, 1) := by decide +kernel
theorem own_d3_30 : decode method_4_code 30 = .ok (.aload_n 1, 1) := by decide +kernel
theorem own_d3_31 : decode method_4_code 31 = .ok (.iconst 3, 1) := by decide +kernel
theorem own_d3_32 : decode method_4_code 32 = .ok (.baload, 1) := by decide +kernel
theorem own_d3_33 : decode method_4_code 33 = .ok (.if_icmp .ne 47, 3) := by decide +kernel
theorem own_d3_36 : decode method_4_code 36 = .ok (.aload_n 0, 1) := by decide +kernel
theorem own_d3_37 : decode method_4_code 37 = .ok (.iconst 4, 1) := by decide +kernel
theorem own_d3_38 : decode method_4_code 38 = .ok (.baload, 1) := by decide +kernel
theorem own_d3_39 : decode method_4_code 39 = .ok (.aload_n 1, 1) := by decide +kernel
theorem own_d3_40 : decode method_4_code 40 = .ok (.iconst 4, 1) := by decide +kernel
theorem own_d3_41 : decode method_4_code 41 = .ok (.baload, 1) := by decide +kernel
theorem own_d3_42 : decode method_4_code 42 = .ok (.if_icmp .ne 38, 3) := by decide +kernel
theorem own_d3_45 : decode method_4_code 45 = .ok (.aload_n 0, 1) := by decide +kernel
theorem own_d3_46 : decode method_4_code 46 = .ok (.iconst 5, 1) := by decide +kernel
theorem own_d3_47 : decode method_4_code 47 = .ok (.baload, 1) := by decide +kernel
theorem own_d3_48 : decode method_4_code 48 = .ok (.aload_n 1, 1) := by decide +kernel
theorem own_d3_49 : decode method_4_code 49 = .ok (.iconst 5, 1) := by decide +kernel
theorem own_d3_50 : decode method_4_code 50 = .ok (.baload, 1) := by decide +kernel
theorem own_d3_51 : decode method_4_code 51 = .ok (.if_icmp .ne 29, 3) := by decide +kernel
theorem own_d3_54 : decode method_4_code 54 = .ok (.aload_n 0, 1) := by decide +kernel
theorem own_d3_55 : decode method_4_code 55 = .ok (.bipush 6, 2) := by decide +kernel
theorem own_d3_57 : decode method_4_code 57 = .ok (.baload, 1) := by decide +kernel
theorem own_d3_58 : decode method_4_code 58 = .ok (.aload_n 1, 1) := by decide +kernel
theorem own_d3_59 : decode method_4_code 59 = .ok (.bipush 6, 2) := by decide +kernel
theorem own_d3_61 : decode method_4_code 61 = .ok (.baload, 1) := by decide +kernel
theorem own_d3_62 : decode method_4_code 62 = .ok (.if_icmp .ne 18, 3) := by decide +kernel
theorem own_d3_65 : decode method_4_code 65 = .ok (.aload_n 0, 1) := by decide +kernel
theorem own_d3_66 : decode method_4_code 66 = .ok (.bipush 7, 2) := by decide +kernel
theorem own_d3_68 : decode method_4_code 68 = .ok (.baload, 1) := by decide +kernel
theorem own_d3_69 : decode method_4_code 69 = .ok (.aload_n 1, 1) := by decide +kernel
theorem own_d3_70 : decode method_4_code 70 = .ok (.bipush 7, 2) := by decide +kernel
theorem own_d3_72 : decode method_4_code 72 = .ok (.baload, 1) := by decide +kernel
theorem own_d3_73 : decode method_4_code 73 = .ok (.if_icmp .ne 7, 3) := by decide +kernel
theorem own_d3_76 : decode method_4_code 76 = .ok (.iconst 1, 1) := by decide +kernel
theorem own_d3_77 : decode method_4_code 77 = .ok (.goto 4, 3) := by decide +kernel
theorem own_d3_80 : decode method_4_code 80 = .ok (.iconst 0, 1) := by decide +kernel
theorem own_d3_81 : decode method_4_code 81 = .ok (.ireturn, 1) := by decide +kernel
theorem own_ef3 (a1 : Addr) (a2 : Addr) (m : MethodId) : entryFrame m #[(.ref a1), (.ref a2)] 2 = mkF m 0 #[.val (.ref a1), .val (.ref a2)] [] := by first | (simp [entryFrame, mkF, argsToLocals, Value.category]; done) | rfl
theorem own_pf3 : plainFor (⟨"com/example/girolog/girolog/files/TextDecoderEncodePinLaw", "same8", "([B[B)Z"⟩ : MethodName) = true := by first | exact plainFor_of_name (by first | (simp [plainName, overriddenIn]; done) | decide +kernel) | decide +kernel
def own_F3 (xs_a1 : List Int32) (xs_a2 : List Int32) : Int32 := (if (List.getD xs_a1 0 0) = (List.getD xs_a2 0 0) then (if (List.getD xs_a1 1 0) = (List.getD xs_a2 1 0) then (if (List.getD xs_a1 2 0) = (List.getD xs_a2 2 0) then (if (List.getD xs_a1 3 0) = (List.getD xs_a2 3 0) then (if (List.getD xs_a1 4 0) = (List.getD xs_a2 4 0) then (if (List.getD xs_a1 5 0) = (List.getD xs_a2 5 0) then (if (List.getD xs_a1 6 0) = (List.getD xs_a2 6 0) then (if (List.getD xs_a1 7 0) = (List.getD xs_a2 7 0) then (1 : Int32) else (0 : Int32)) else (0 : Int32)) else (0 : Int32)) else (0 : Int32)) else (0 : Int32)) else (0 : Int32)) else (0 : Int32)) else (0 : Int32))
set_option maxRecDepth 65536 in
set_option maxHeartbeats 40000000 in
theorem own_rm3 (l : Launch) (Z : State) (a0 : Array Value) (hw : ∀ d ∈ tables_1, d.before a0 Z = true) (a1 : Addr) (xs_a1 : List Int32) (a2 : Addr) (xs_a2 : List Int32) (h0 : Heap) (n0 : Nat) (Z0 : n0 ≤ h0.size) (V_a1 : own_V Z h0 a1 .byte (8 : Int32) xs_a1) (V_a2 : own_V Z h0 a2 .byte (8 : Int32) xs_a2) :
    own_Con l Z (⟨"com/example/girolog/girolog/files/TextDecoderEncodePinLaw", "same8", "([B[B)Z"⟩ : MethodName) method_4_code 2 (some .boolean) ({ frames := 0, cells := 0, slots := 0, locals := 0 } : Room) #[(.ref a1), (.ref a2)] h0 n0 (fun v h => v = some (.int (own_F3 xs_a1 xs_a2)) ∧ h = h0) := by
  refine own_enter own_pf3 Z0 (own_ef3 a1 a2) ?_
  intro p e s m below meth c T0 X0 hret hnm
  refine own_aloadN X0 own_d3_0 (pc' := 1) rfl (v := (.ref a1)) rfl rfl ?_
  refine own_iconst X0 own_d3_1 (pc' := 2) rfl (z := (0 : Int32)) rfl ?_
  refine own_baload X0 V_a1 (by decide) (by decide) (y := (List.getD xs_a1 0 0)) rfl own_d3_2 (pc' := 3) rfl ?_
  refine own_aloadN X0 own_d3_3 (pc' := 4) rfl (v := (.ref a2)) rfl rfl ?_
  refine own_iconst X0 own_d3_4 (pc' := 5) rfl (z := (0 : Int32)) rfl ?_
  refine own_baload X0 V_a2 (by decide) (by decide) (y := (List.getD xs_a2 0 0)) rfl own_d3_5 (pc' := 6) rfl ?_
  by_cases hc1 : (List.getD xs_a1 0 0) = (List.getD xs_a2 0 0)
  · refine own_icmpN X0 own_d3_6 (teq hc1).2 (pc' := 9) rfl ?_
    refine own_aloadN X0 own_d3_9 (pc' := 10) rfl (v := (.ref a1)) rfl rfl ?_
    refine own_iconst X0 own_d3_10 (pc' := 11) rfl (z := (1 : Int32)) rfl ?_
    refine own_baload X0 V_a1 (by decide) (by decide) (y := (List.getD xs_a1 1 0)) rfl own_d3_11 (pc' := 12) rfl ?_
    refine own_aloadN X0 own_d3_12 (pc' := 13) rfl (v := (.ref a2)) rfl rfl ?_
    refine own_iconst X0 own_d3_13 (pc' := 14) rfl (z := (1 : Int32)) rfl ?_
    refine own_baload X0 V_a2 (by decide) (by decide) (y := (List.getD xs_a2 1 0)) rfl own_d3_14 (pc' := 15) rfl ?_
    by_cases hc2 : (List.getD xs_a1 1 0) = (List.getD xs_a2 1 0)
    · refine own_icmpN X0 own_d3_15 (teq hc2).2 (pc' := 18) rfl ?_
      refine own_aloadN X0 own_d3_18 (pc' := 19) rfl (v := (.ref a1)) rfl rfl ?_
      refine own_iconst X0 own_d3_19 (pc' := 20) rfl (z := (2 : Int32)) rfl ?_
      refine own_baload X0 V_a1 (by decide) (by decide) (y := (List.getD xs_a1 2 0)) rfl own_d3_20 (pc' := 21) rfl ?_
      refine own_aloadN X0 own_d3_21 (pc' := 22) rfl (v := (.ref a2)) rfl rfl ?_
      refine own_iconst X0 own_d3_22 (pc' := 23) rfl (z := (2 : Int32)) rfl ?_
      refine own_baload X0 V_a2 (by decide) (by decide) (y := (List.getD xs_a2 2 0)) rfl own_d3_23 (pc' := 24) rfl ?_
      by_cases hc3 : (List.getD xs_a1 2 0) = (List.getD xs_a2 2 0)
      · refine own_icmpN X0 own_d3_24 (teq hc3).2 (pc' := 27) rfl ?_
        refine own_aloadN X0 own_d3_27 (pc' := 28) rfl (v := (.ref a1)) rfl rfl ?_
        refine own_iconst X0 own_d3_28 (pc' := 29) rfl (z := (3 : Int32)) rfl ?_
        refine own_baload X0 V_a1 (by decide) (by decide) (y := (List.getD xs_a1 3 0)) rfl own_d3_29 (pc' := 30) rfl ?_
        refine own_aloadN X0 own_d3_30 (pc' := 31) rfl (v := (.ref a2)) rfl rfl ?_
        refine own_iconst X0 own_d3_31 (pc' := 32) rfl (z := (3 : Int32)) rfl ?_
        refine own_baload X0 V_a2 (by decide) (by decide) (y := (List.getD xs_a2 3 0)) rfl own_d3_32 (pc' := 33) rfl ?_
        by_cases hc4 : (List.getD xs_a1 3 0) = (List.getD xs_a2 3 0)
        · refine own_icmpN X0 own_d3_33 (teq hc4).2 (pc' := 36) rfl ?_
          refine own_aloadN X0 own_d3_36 (pc' := 37) rfl (v := (.ref a1)) rfl rfl ?_
          refine own_iconst X0 own_d3_37 (pc' := 38) rfl (z := (4 : Int32)) rfl ?_
          refine own_baload X0 V_a1 (by decide) (by decide) (y := (List.getD xs_a1 4 0)) rfl own_d3_38 (pc' := 39) rfl ?_
          refine own_aloadN X0 own_d3_39 (pc' := 40) rfl (v := (.ref a2)) rfl rfl ?_
          refine own_iconst X0 own_d3_40 (pc' := 41) rfl (z := (4 : Int32)) rfl ?_
          refine own_baload X0 V_a2 (by decide) (by decide) (y := (List.getD xs_a2 4 0)) rfl own_d3_41 (pc' := 42) rfl ?_
          by_cases hc5 : (List.getD xs_a1 4 0) = (List.getD xs_a2 4 0)
          · refine own_icmpN X0 own_d3_42 (teq hc5).2 (pc' := 45) rfl ?_
            refine own_aloadN X0 own_d3_45 (pc' := 46) rfl (v := (.ref a1)) rfl rfl ?_
            refine own_iconst X0 own_d3_46 (pc' := 47) rfl (z := (5 : Int32)) rfl ?_
            refine own_baload X0 V_a1 (by decide) (by decide) (y := (List.getD xs_a1 5 0)) rfl own_d3_47 (pc' := 48) rfl ?_
            refine own_aloadN X0 own_d3_48 (pc' := 49) rfl (v := (.ref a2)) rfl rfl ?_
            refine own_iconst X0 own_d3_49 (pc' := 50) rfl (z := (5 : Int32)) rfl ?_
            refine own_baload X0 V_a2 (by decide) (by decide) (y := (List.getD xs_a2 5 0)) rfl own_d3_50 (pc' := 51) rfl ?_
            by_cases hc6 : (List.getD xs_a1 5 0) = (List.getD xs_a2 5 0)
            · refine own_icmpN X0 own_d3_51 (teq hc6).2 (pc' := 54) rfl ?_
              refine own_aloadN X0 own_d3_54 (pc' := 55) rfl (v := (.ref a1)) rfl rfl ?_
              refine own_bipush X0 own_d3_55 (pc' := 57) rfl (z := (6 : Int32)) rfl ?_
              refine own_baload X0 V_a1 (by decide) (by decide) (y := (List.getD xs_a1 6 0)) rfl own_d3_57 (pc' := 58) rfl ?_
              refine own_aloadN X0 own_d3_58 (pc' := 59) rfl (v := (.ref a2)) rfl rfl ?_
              refine own_bipush X0 own_d3_59 (pc' := 61) rfl (z := (6 : Int32)) rfl ?_
              refine own_baload X0 V_a2 (by decide) (by decide) (y := (List.getD xs_a2 6 0)) rfl own_d3_61 (pc' := 62) rfl ?_
              by_cases hc7 : (List.getD xs_a1 6 0) = (List.getD xs_a2 6 0)
              · refine own_icmpN X0 own_d3_62 (teq hc7).2 (pc' := 65) rfl ?_
                refine own_aloadN X0 own_d3_65 (pc' := 66) rfl (v := (.ref a1)) rfl rfl ?_
                refine own_bipush X0 own_d3_66 (pc' := 68) rfl (z := (7 : Int32)) rfl ?_
                refine own_baload X0 V_a1 (by decide) (by decide) (y := (List.getD xs_a1 7 0)) rfl own_d3_68 (pc' := 69) rfl ?_
                refine own_aloadN X0 own_d3_69 (pc' := 70) rfl (v := (.ref a2)) rfl rfl ?_
                refine own_bipush X0 own_d3_70 (pc' := 72) rfl (z := (7 : Int32)) rfl ?_
                refine own_baload X0 V_a2 (by decide) (by decide) (y := (List.getD xs_a2 7 0)) rfl own_d3_72 (pc' := 73) rfl ?_
                by_cases hc8 : (List.getD xs_a1 7 0) = (List.getD xs_a2 7 0)
                · refine own_icmpN X0 own_d3_73 (teq hc8).2 (pc' := 76) rfl ?_
                  refine own_iconst X0 own_d3_76 (pc' := 77) rfl (z := (1 : Int32)) rfl ?_
                  refine own_goto X0 own_d3_77 (by decide) (pc' := 81) rfl ?_
                  refine own_iret X0 (t := .boolean) (w := (1 : Int32)) hret (by simp) own_d3_81 rfl (by decide) (by decide) ?_
                  exact ⟨congrArg (fun t => some (Value.int t)) (show (1 : Int32) = own_F3 xs_a1 xs_a2 from (by rw [own_F3, if_pos hc1, if_pos hc2, if_pos hc3, if_pos hc4, if_pos hc5, if_pos hc6, if_pos hc7, if_pos hc8])), rfl⟩
                · refine own_icmpY X0 own_d3_73 (feq hc8).2 (by decide) (pc' := 80) rfl ?_
                  refine own_iconst X0 own_d3_80 (pc' := 81) rfl (z := (0 : Int32)) rfl ?_
                  refine own_iret X0 (t := .boolean) (w := (0 : Int32)) hret (by simp) own_d3_81 rfl (by decide) (by decide) ?_
                  exact ⟨congrArg (fun t => some (Value.int t)) (show (0 : Int32) = own_F3 xs_a1 xs_a2 from (by rw [own_F3, if_pos hc1, if_pos hc2, if_pos hc3, if_pos hc4, if_pos hc5, if_pos hc6, if_pos hc7, if_neg hc8])), rfl⟩
              · refine own_icmpY X0 own_d3_62 (feq hc7).2 (by decide) (pc' := 80) rfl ?_
                refine own_iconst X0 own_d3_80 (pc' := 81) rfl (z := (0 : Int32)) rfl ?_
                refine own_iret X0 (t := .boolean) (w := (0 : Int32)) hret (by simp) own_d3_81 rfl (by decide) (by decide) ?_
                exact ⟨congrArg (fun t => some (Value.int t)) (show (0 : Int32) = own_F3 xs_a1 xs_a2 from (by rw [own_F3, if_pos hc1, if_pos hc2, if_pos hc3, if_pos hc4, if_pos hc5, if_pos hc6, if_neg hc7])), rfl⟩
            · refine own_icmpY X0 own_d3_51 (feq hc6).2 (by decide) (pc' := 80) rfl ?_
              refine own_iconst X0 own_d3_80 (pc' := 81) rfl (z := (0 : Int32)) rfl ?_
              refine own_iret X0 (t := .boolean) (w := (0 : Int32)) hret (by simp) own_d3_81 rfl (by decide) (by decide) ?_
              exact ⟨congrArg (fun t => some (Value.int t)) (show (0 : Int32) = own_F3 xs_a1 xs_a2 from (by rw [own_F3, if_pos hc1, if_pos hc2, if_pos hc3, if_pos hc4, if_pos hc5, if_neg hc6])), rfl⟩
          · refine own_icmpY X0 own_d3_42 (feq hc5).2 (by decide) (pc' := 80) rfl ?_
            refine own_iconst X0 own_d3_80 (pc' := 81) rfl (z := (0 : Int32)) rfl ?_
            refine own_iret X0 (t := .boolean) (w := (0 : Int32)) hret (by simp) own_d3_81 rfl (by decide) (by decide) ?_
            exact ⟨congrArg (fun t => some (Value.int t)) (show (0 : Int32) = own_F3 xs_a1 xs_a2 from (by rw [own_F3, if_pos hc1, if_pos hc2, if_pos hc3, if_pos hc4, if_neg hc5])), rfl⟩
        · refine own_icmpY X0 own_d3_33 (feq hc4).2 (by decide) (pc' := 80) rfl ?_
          refine own_iconst X0 own_d3_80 (pc' := 81) rfl (z := (0 : Int32)) rfl ?_
          refine own_iret X0 (t := .boolean) (w := (0 : Int32)) hret (by simp) own_d3_81 rfl (by decide) (by decide) ?_
          exact ⟨congrArg (fun t => some (Value.int t)) (show (0 : Int32) = own_F3 xs_a1 xs_a2 from (by rw [own_F3, if_pos hc1, if_pos hc2, if_pos hc3, if_neg hc4])), rfl⟩
      · refine own_icmpY X0 own_d3_24 (feq hc3).2 (by decide) (pc' := 80) rfl ?_
        refine own_iconst X0 own_d3_80 (pc' := 81) rfl (z := (0 : Int32)) rfl ?_
        refine own_iret X0 (t := .boolean) (w := (0 : Int32)) hret (by simp) own_d3_81 rfl (by decide) (by decide) ?_
        exact ⟨congrArg (fun t => some (Value.int t)) (show (0 : Int32) = own_F3 xs_a1 xs_a2 from (by rw [own_F3, if_pos hc1, if_pos hc2, if_neg hc3])), rfl⟩
    · refine own_icmpY X0 own_d3_15 (feq hc2).2 (by decide) (pc' := 80) rfl ?_
      refine own_iconst X0 own_d3_80 (pc' := 81) rfl (z := (0 : Int32)) rfl ?_
      refine own_iret X0 (t := .boolean) (w := (0 : Int32)) hret (by simp) own_d3_81 rfl (by decide) (by decide) ?_
      exact ⟨congrArg (fun t => some (Value.int t)) (show (0 : Int32) = own_F3 xs_a1 xs_a2 from (by rw [own_F3, if_pos hc1, if_neg hc2])), rfl⟩
  · refine own_icmpY X0 own_d3_6 (feq hc1).2 (by decide) (pc' := 80) rfl ?_
    refine own_iconst X0 own_d3_80 (pc' := 81) rfl (z := (0 : Int32)) rfl ?_
    refine own_iret X0 (t := .boolean) (w := (0 : Int32)) hret (by simp) own_d3_81 rfl (by decide) (by decide) ?_
    exact ⟨congrArg (fun t => some (Value.int t)) (show (0 : Int32) = own_F3 xs_a1 xs_a2 from (by rw [own_F3, if_neg hc1])), rfl⟩
theorem own_pd0 : parseMethodDescriptor "([BB)V" = some ⟨[(.array .byte), .byte], none⟩ := by decide +kernel
theorem own_pd1 : parseMethodDescriptor "(I[BI)I" = some ⟨[.int, (.array .byte), .int], some .int⟩ := by decide +kernel
theorem own_pd2 : parseMethodDescriptor "([B[B)Z" = some ⟨[(.array .byte), (.array .byte)], some .boolean⟩ := by decide +kernel
theorem own_ef0 (p1 : Int32) (p2 : Int32) (p3 : Int32) (m : MethodId) : entryFrame m #[(.int p1), (.int p2), (.int p3)] maxLocals = mkF m 0 #[.val (.int p1), .val (.int p2), .val (.int p3), .unset, .unset, .unset, .unset, .unset, .unset, .unset] [] := by first | (simp [entryFrame, mkF, argsToLocals, Value.category, maxLocals]; done) | rfl
theorem own_pf0 : plainFor x = true := by first | exact plainFor_of_name (by first | (simp [plainName, overriddenIn]; done) | decide +kernel) | decide +kernel
def own_v0_7 (p1 : Int32) : Int32 := ((p1 &&& (2147483647 : Int32)) % (1114112 : Int32))
def own_v0_59 (p1 : Int32) : Int32 := ((own_v0_7 p1).toInt8.toInt32)
def own_v0_243 (p1 : Int32) (p2 : Int32) (p3 : Int32) : Int32 := (own_F2 (own_v0_7 p1) [((p3.toInt8.toInt32).toInt8.toInt32), ((p3.toInt8.toInt32).toInt8.toInt32), ((p3.toInt8.toInt32).toInt8.toInt32), ((p3.toInt8.toInt32).toInt8.toInt32), ((p3.toInt8.toInt32).toInt8.toInt32), ((p3.toInt8.toInt32).toInt8.toInt32), ((p3.toInt8.toInt32).toInt8.toInt32), ((p3.toInt8.toInt32).toInt8.toInt32)] (p2 &&& (3 : Int32)))
def own_v0_259 (p1 : Int32) (p2 : Int32) (p3 : Int32) : Int32 := (own_F3 (own_F2_a2 (own_v0_7 p1) [((p3.toInt8.toInt32).toInt8.toInt32), ((p3.toInt8.toInt32).toInt8.toInt32), ((p3.toInt8.toInt32).toInt8.toInt32), ((p3.toInt8.toInt32).toInt8.toInt32), ((p3.toInt8.toInt32).toInt8.toInt32), ((p3.toInt8.toInt32).toInt8.toInt32), ((p3.toInt8.toInt32).toInt8.toInt32), ((p3.toInt8.toInt32).toInt8.toInt32)] (p2 &&& (3 : Int32))) (List.set [((p3.toInt8.toInt32).toInt8.toInt32), ((p3.toInt8.toInt32).toInt8.toInt32), ((p3.toInt8.toInt32).toInt8.toInt32), ((p3.toInt8.toInt32).toInt8.toInt32), ((p3.toInt8.toInt32).toInt8.toInt32), ((p3.toInt8.toInt32).toInt8.toInt32), ((p3.toInt8.toInt32).toInt8.toInt32), ((p3.toInt8.toInt32).toInt8.toInt32)] ((p2 &&& (3 : Int32)).toNatClampNeg) (own_v0_59 p1)))
def own_v0_86 (p1 : Int32) : Int32 := (((192 : Int32) ||| ((own_v0_7 p1) >>> (6 : Int32))).toInt8.toInt32)
def own_v0_102 (p1 : Int32) : Int32 := (((128 : Int32) ||| ((own_v0_7 p1) &&& (63 : Int32))).toInt8.toInt32)
def own_v0_259_1 (p1 : Int32) (p2 : Int32) (p3 : Int32) : Int32 := (own_F3 (own_F2_a2 (own_v0_7 p1) [((p3.toInt8.toInt32).toInt8.toInt32), ((p3.toInt8.toInt32).toInt8.toInt32), ((p3.toInt8.toInt32).toInt8.toInt32), ((p3.toInt8.toInt32).toInt8.toInt32), ((p3.toInt8.toInt32).toInt8.toInt32), ((p3.toInt8.toInt32).toInt8.toInt32), ((p3.toInt8.toInt32).toInt8.toInt32), ((p3.toInt8.toInt32).toInt8.toInt32)] (p2 &&& (3 : Int32))) (List.set (List.set [((p3.toInt8.toInt32).toInt8.toInt32), ((p3.toInt8.toInt32).toInt8.toInt32), ((p3.toInt8.toInt32).toInt8.toInt32), ((p3.toInt8.toInt32).toInt8.toInt32), ((p3.toInt8.toInt32).toInt8.toInt32), ((p3.toInt8.toInt32).toInt8.toInt32), ((p3.toInt8.toInt32).toInt8.toInt32), ((p3.toInt8.toInt32).toInt8.toInt32)] ((p2 &&& (3 : Int32)).toNatClampNeg) (own_v0_86 p1)) (((p2 &&& (3 : Int32)) + (1 : Int32)).toNatClampNeg) (own_v0_102 p1)))
def own_v0_128 (p1 : Int32) : Int32 := (((224 : Int32) ||| ((own_v0_7 p1) >>> (12 : Int32))).toInt8.toInt32)
def own_v0_147 (p1 : Int32) : Int32 := (((128 : Int32) ||| (((own_v0_7 p1) >>> (6 : Int32)) &&& (63 : Int32))).toInt8.toInt32)
def own_v0_259_2 (p1 : Int32) (p2 : Int32) (p3 : Int32) : Int32 := (own_F3 (own_F2_a2 (own_v0_7 p1) [((p3.toInt8.toInt32).toInt8.toInt32), ((p3.toInt8.toInt32).toInt8.toInt32), ((p3.toInt8.toInt32).toInt8.toInt32), ((p3.toInt8.toInt32).toInt8.toInt32), ((p3.toInt8.toInt32).toInt8.toInt32), ((p3.toInt8.toInt32).toInt8.toInt32), ((p3.toInt8.toInt32).toInt8.toInt32), ((p3.toInt8.toInt32).toInt8.toInt32)] (p2 &&& (3 : Int32))) (List.set (List.set (List.set [((p3.toInt8.toInt32).toInt8.toInt32), ((p3.toInt8.toInt32).toInt8.toInt32), ((p3.toInt8.toInt32).toInt8.toInt32), ((p3.toInt8.toInt32).toInt8.toInt32), ((p3.toInt8.toInt32).toInt8.toInt32), ((p3.toInt8.toInt32).toInt8.toInt32), ((p3.toInt8.toInt32).toInt8.toInt32), ((p3.toInt8.toInt32).toInt8.toInt32)] ((p2 &&& (3 : Int32)).toNatClampNeg) (own_v0_128 p1)) (((p2 &&& (3 : Int32)) + (1 : Int32)).toNatClampNeg) (own_v0_147 p1)) (((p2 &&& (3 : Int32)) + (2 : Int32)).toNatClampNeg) (own_v0_102 p1)))
def own_v0_183 (p1 : Int32) : Int32 := (((240 : Int32) ||| ((own_v0_7 p1) >>> (18 : Int32))).toInt8.toInt32)
def own_v0_202 (p1 : Int32) : Int32 := (((128 : Int32) ||| (((own_v0_7 p1) >>> (12 : Int32)) &&& (63 : Int32))).toInt8.toInt32)
def own_v0_259_3 (p1 : Int32) (p2 : Int32) (p3 : Int32) : Int32 := (own_F3 (own_F2_a2 (own_v0_7 p1) [((p3.toInt8.toInt32).toInt8.toInt32), ((p3.toInt8.toInt32).toInt8.toInt32), ((p3.toInt8.toInt32).toInt8.toInt32), ((p3.toInt8.toInt32).toInt8.toInt32), ((p3.toInt8.toInt32).toInt8.toInt32), ((p3.toInt8.toInt32).toInt8.toInt32), ((p3.toInt8.toInt32).toInt8.toInt32), ((p3.toInt8.toInt32).toInt8.toInt32)] (p2 &&& (3 : Int32))) (List.set (List.set (List.set (List.set [((p3.toInt8.toInt32).toInt8.toInt32), ((p3.toInt8.toInt32).toInt8.toInt32), ((p3.toInt8.toInt32).toInt8.toInt32), ((p3.toInt8.toInt32).toInt8.toInt32), ((p3.toInt8.toInt32).toInt8.toInt32), ((p3.toInt8.toInt32).toInt8.toInt32), ((p3.toInt8.toInt32).toInt8.toInt32), ((p3.toInt8.toInt32).toInt8.toInt32)] ((p2 &&& (3 : Int32)).toNatClampNeg) (own_v0_183 p1)) (((p2 &&& (3 : Int32)) + (1 : Int32)).toNatClampNeg) (own_v0_202 p1)) (((p2 &&& (3 : Int32)) + (2 : Int32)).toNatClampNeg) (own_v0_147 p1)) (((p2 &&& (3 : Int32)) + (3 : Int32)).toNatClampNeg) (own_v0_102 p1)))
def own_F0 (p1 : Int32) (p2 : Int32) (p3 : Int32) : Int32 := (if (own_v0_7 p1) < (128 : Int32) then (if (own_v0_243 p1 p2 p3) = (1 : Int32) then (if (own_v0_259 p1 p2 p3) = (0 : Int32) then (0 : Int32) else (1 : Int32)) else (0 : Int32)) else (if (own_v0_7 p1) < (2048 : Int32) then (if (own_v0_243 p1 p2 p3) = (2 : Int32) then (if (own_v0_259_1 p1 p2 p3) = (0 : Int32) then (0 : Int32) else (1 : Int32)) else (0 : Int32)) else (if (own_v0_7 p1) < (65536 : Int32) then (if (own_v0_243 p1 p2 p3) = (3 : Int32) then (if (own_v0_259_2 p1 p2 p3) = (0 : Int32) then (0 : Int32) else (1 : Int32)) else (0 : Int32)) else (if (own_v0_243 p1 p2 p3) = (4 : Int32) then (if (own_v0_259_3 p1 p2 p3) = (0 : Int32) then (0 : Int32) else (1 : Int32)) else (0 : Int32)))))
-- LEMMAS
theorem own_m3 (p : Int32) : 0 ≤ (p &&& 3).toInt ∧ (p &&& 3).toInt ≤ 3 := by
  have a1 : (p &&& 3).toInt = p.toInt % 4 := own_mk (k := 2) (by decide) (by decide)
  omega
theorem own_a0 (p : Int32) : ¬ (p &&& 3) < (0 : Int32) := by
  have e0 : (0 : Int32).toInt = 0 := rfl
  rw [own_lt]; have := own_m3 p; omega
theorem own_a3 (p : Int32) : ¬ (3 : Int32) < (p &&& 3) := by
  have e0 : (3 : Int32).toInt = 3 := rfl
  rw [own_lt]; have := own_m3 p; omega
-- END LEMMAS
set_option maxRecDepth 65536 in
set_option maxHeartbeats 40000000 in
theorem own_rm0 (l : Launch) (Z : State) (a0 : Array Value) (hw : ∀ d ∈ tables_1, d.before a0 Z = true) (p1 : Int32) (p2 : Int32) (p3 : Int32) (h0 : Heap) (n0 : Nat) (Z0 : n0 ≤ h0.size) :
    own_Con l Z x code maxLocals ret room_1 #[(.int p1), (.int p2), (.int p3)] h0 n0 (fun v h => v = some (.int (own_F0 p1 p2 p3))) := by
  refine own_enter own_pf0 Z0 (own_ef0 p1 p2 p3) ?_
  intro p e s m below meth c T0 X0 hret hnm
  refine own_iloadN X0 at_0 (pc' := 1) rfl (v := p1) rfl ?_
  refine own_ldc X0 (hw _ (List.mem_of_getElem? (i := 0) rfl)) at_1 (pc' := 3) rfl ?_
  refine own_iand X0 at_3 (pc' := 4) rfl (z := (p1 &&& (2147483647 : Int32))) rfl ?_
  refine own_ldc X0 (hw _ (List.mem_of_getElem? (i := 1) rfl)) at_4 (pc' := 6) rfl ?_
  refine own_irem X0 at_6 (pc' := 7) rfl (by decide) (z := ((p1 &&& (2147483647 : Int32)) % (1114112 : Int32))) rfl ?_
  refine own_istoreN X0 at_7 (pc' := 8) rfl (y := (own_v0_7 p1)) rfl (Ls' := #[.val (.int p1), .val (.int p2), .val (.int p3), .val (.int (own_v0_7 p1)), .unset, .unset, .unset, .unset, .unset, .unset]) rfl ?_
  refine own_iloadN X0 at_8 (pc' := 9) rfl (v := p2) rfl ?_
  refine own_iconst X0 at_9 (pc' := 10) rfl (z := (3 : Int32)) rfl ?_
  refine own_iand X0 at_10 (pc' := 11) rfl (z := (p2 &&& (3 : Int32))) rfl ?_
  refine own_istore X0 at_11 (pc' := 13) rfl (y := (p2 &&& (3 : Int32))) rfl (Ls' := #[.val (.int p1), .val (.int p2), .val (.int p3), .val (.int (own_v0_7 p1)), .val (.int (p2 &&& (3 : Int32))), .unset, .unset, .unset, .unset, .unset]) rfl ?_
  refine own_iloadN X0 at_13 (pc' := 14) rfl (v := p3) rfl ?_
  refine own_i2b X0 at_14 (pc' := 15) rfl (z := (p3.toInt8.toInt32)) rfl ?_
  refine own_istore X0 at_15 (pc' := 17) rfl (y := (p3.toInt8.toInt32)) rfl (Ls' := #[.val (.int p1), .val (.int p2), .val (.int p3), .val (.int (own_v0_7 p1)), .val (.int (p2 &&& (3 : Int32))), .val (.int (p3.toInt8.toInt32)), .unset, .unset, .unset, .unset]) rfl ?_
  refine own_bipush X0 at_17 (pc' := 19) rfl (z := (8 : Int32)) rfl ?_
  refine own_newV X0 rfl rfl (hw _ (List.mem_of_getElem? (i := 2) rfl)) (by decide) 8 (by decide) (by decide) (by decide) (by decide) at_19 (pc' := 21) rfl fun T2 h3 b1 X4 Ex5 hs6 g7 V8 => ?_
  replace V8 : own_V Z h3 b1 .byte (8 : Int32) [(0 : Int32), (0 : Int32), (0 : Int32), (0 : Int32), (0 : Int32), (0 : Int32), (0 : Int32), (0 : Int32)] := V8
  refine own_astore X4 at_21 (pc' := 23) rfl rfl (Ls' := #[.val (.int p1), .val (.int p2), .val (.int p3), .val (.int (own_v0_7 p1)), .val (.int (p2 &&& (3 : Int32))), .val (.int (p3.toInt8.toInt32)), .val (.ref b1), .unset, .unset, .unset]) rfl ?_
  refine own_bipush X4 at_23 (pc' := 25) rfl (z := (8 : Int32)) rfl ?_
  refine own_newV X4 rfl rfl (hw _ (List.mem_of_getElem? (i := 2) rfl)) (by decide) 8 (by decide) (by decide) (by decide) (by decide) at_25 (pc' := 27) rfl fun T10 h11 b9 X12 Ex13 hs14 g15 V16 => ?_
  have ne17 : b1 ≠ b9 := Nat.ne_of_lt (Nat.lt_of_lt_of_eq V8.lt hs14)
  have V18 := V8.ext Ex13
  replace V16 : own_V Z h11 b9 .byte (8 : Int32) [(0 : Int32), (0 : Int32), (0 : Int32), (0 : Int32), (0 : Int32), (0 : Int32), (0 : Int32), (0 : Int32)] := V16
  refine own_astore X12 at_27 (pc' := 29) rfl rfl (Ls' := #[.val (.int p1), .val (.int p2), .val (.int p3), .val (.int (own_v0_7 p1)), .val (.int (p2 &&& (3 : Int32))), .val (.int (p3.toInt8.toInt32)), .val (.ref b1), .val (.ref b9), .unset, .unset]) rfl ?_
  refine own_aload X12 at_29 (pc' := 31) rfl (v := (.ref b1)) rfl rfl ?_
  refine own_iload X12 at_31 (pc' := 33) rfl (v := (p3.toInt8.toInt32)) rfl ?_
  refine own_callS X12 (argsL := [(.ref b1), (.int (p3.toInt8.toInt32))]) (S := []) (own_rm1 l Z a0 hw b1 (0 : Int32) (0 : Int32) (0 : Int32) (0 : Int32) (0 : Int32) (0 : Int32) (0 : Int32) (0 : Int32) (p3.toInt8.toInt32) h11 n0 X12.2.2.2.2.2.2.2.2.1 V18 g7) (hw _ (List.mem_of_getElem? (i := 3) rfl)) (hw _ (List.mem_of_getElem? (i := 4) rfl)) (hw _ (List.mem_of_getElem? (i := 5) rfl)) (hw _ (List.mem_of_getElem? (i := 6) rfl)) (by decide) (by decide) 0 (by decide) rfl own_pd0 rfl rfl (Nat.le_of_eq rfl) (by decide) (by decide) at_33 (pc' := 36) rfl fun T19 h20 lc21 r22 X23 Q24 => ?_
  obtain ⟨rfl, K25, V26⟩ := Q24
  have V27 := V16.keep K25 (ninS (Ne.symm ne17) nin0)
  show own_E p e below _ (T19.setTop (mkF m 36 #[.val (.int p1), .val (.int p2), .val (.int p3), .val (.int (own_v0_7 p1)), .val (.int (p2 &&& (3 : Int32))), .val (.int (p3.toInt8.toInt32)), .val (.ref b1), .val (.ref b9), .unset, .unset] []))
  refine own_aload X23 at_36 (pc' := 38) rfl (v := (.ref b9)) rfl rfl ?_
  refine own_iload X23 at_38 (pc' := 40) rfl (v := (p3.toInt8.toInt32)) rfl ?_
  refine own_callS X23 (argsL := [(.ref b9), (.int (p3.toInt8.toInt32))]) (S := []) (own_rm1 l Z a0 hw b9 (0 : Int32) (0 : Int32) (0 : Int32) (0 : Int32) (0 : Int32) (0 : Int32) (0 : Int32) (0 : Int32) (p3.toInt8.toInt32) h20 n0 X23.2.2.2.2.2.2.2.2.1 V27 g15) (hw _ (List.mem_of_getElem? (i := 3) rfl)) (hw _ (List.mem_of_getElem? (i := 4) rfl)) (hw _ (List.mem_of_getElem? (i := 5) rfl)) (hw _ (List.mem_of_getElem? (i := 6) rfl)) (by decide) (by decide) 0 (by decide) rfl own_pd0 rfl rfl (Nat.le_of_eq rfl) (by decide) (by decide) at_40 (pc' := 43) rfl fun T28 h29 lc30 r31 X32 Q33 => ?_
  obtain ⟨rfl, K34, V35⟩ := Q33
  have V36 := V26.keep K34 (ninS ne17 nin0)
  show own_E p e below _ (T28.setTop (mkF m 43 #[.val (.int p1), .val (.int p2), .val (.int p3), .val (.int (own_v0_7 p1)), .val (.int (p2 &&& (3 : Int32))), .val (.int (p3.toInt8.toInt32)), .val (.ref b1), .val (.ref b9), .unset, .unset] []))
  refine own_iloadN X32 at_43 (pc' := 44) rfl (v := (own_v0_7 p1)) rfl ?_
  refine own_sipush X32 at_44 (pc' := 47) rfl (z := (128 : Int32)) rfl ?_
  by_cases hc37 : (own_v0_7 p1) < (128 : Int32)
  · refine own_icmpN X32 at_47 (tlt hc37).2.1 (pc' := 50) rfl ?_
    refine own_iconst X32 at_50 (pc' := 51) rfl (z := (1 : Int32)) rfl ?_
    refine own_istore X32 at_51 (pc' := 53) rfl (y := (1 : Int32)) rfl (Ls' := #[.val (.int p1), .val (.int p2), .val (.int p3), .val (.int (own_v0_7 p1)), .val (.int (p2 &&& (3 : Int32))), .val (.int (p3.toInt8.toInt32)), .val (.ref b1), .val (.ref b9), .val (.int (1 : Int32)), .unset]) rfl ?_
    refine own_aload X32 at_53 (pc' := 55) rfl (v := (.ref b9)) rfl rfl ?_
    refine own_iload X32 at_55 (pc' := 57) rfl (v := (p2 &&& (3 : Int32))) rfl ?_
    refine own_iloadN X32 at_57 (pc' := 58) rfl (v := (own_v0_7 p1)) rfl ?_
    refine own_i2b X32 at_58 (pc' := 59) rfl (z := ((own_v0_7 p1).toInt8.toInt32)) rfl ?_
    refine own_bastore X32 V35 g15 (y := (own_v0_59 p1)) (own_nb _) ((p2 &&& (3 : Int32)).toNatClampNeg) rfl (own_a0 p2) (own_at0 (own_a3 p2)) at_59 (pc' := 60) rfl fun T38 h39 lc41 X40 W42 V43 => ?_
    have V44 := V36.other W42 ne17
    refine own_goto X40 at_60 (by decide) (pc' := 238) rfl ?_
    refine own_iloadN X40 at_238 (pc' := 239) rfl (v := (own_v0_7 p1)) rfl ?_
    refine own_aload X40 at_239 (pc' := 241) rfl (v := (.ref b1)) rfl rfl ?_
    refine own_iload X40 at_241 (pc' := 243) rfl (v := (p2 &&& (3 : Int32))) rfl ?_
    refine own_callS X40 (argsL := [(.int (own_v0_7 p1)), (.ref b1), (.int (p2 &&& (3 : Int32)))]) (S := []) (own_rm2 l Z a0 hw (own_v0_7 p1) b1 [((p3.toInt8.toInt32).toInt8.toInt32), ((p3.toInt8.toInt32).toInt8.toInt32), ((p3.toInt8.toInt32).toInt8.toInt32), ((p3.toInt8.toInt32).toInt8.toInt32), ((p3.toInt8.toInt32).toInt8.toInt32), ((p3.toInt8.toInt32).toInt8.toInt32), ((p3.toInt8.toInt32).toInt8.toInt32), ((p3.toInt8.toInt32).toInt8.toInt32)] (p2 &&& (3 : Int32)) h39 n0 X40.2.2.2.2.2.2.2.2.1 V44 g7 (own_a0 p2) (own_a3 p2)) (hw _ (List.mem_of_getElem? (i := 7) rfl)) (hw _ (List.mem_of_getElem? (i := 8) rfl)) (hw _ (List.mem_of_getElem? (i := 9) rfl)) (hw _ (List.mem_of_getElem? (i := 10) rfl)) (by decide) (by decide) 0 (by decide) rfl own_pd1 rfl rfl (Nat.le_of_eq rfl) (by decide) (by decide) at_243 (pc' := 246) rfl fun T45 h46 lc47 r48 X49 Q50 => ?_
    obtain ⟨rfl, K51, V52⟩ := Q50
    have V53 := V43.keep K51 (ninS (Ne.symm ne17) nin0)
    show own_E p e below _ (T45.setTop (mkF m 246 #[.val (.int p1), .val (.int p2), .val (.int p3), .val (.int (own_v0_7 p1)), .val (.int (p2 &&& (3 : Int32))), .val (.int (p3.toInt8.toInt32)), .val (.ref b1), .val (.ref b9), .val (.int (1 : Int32)), .unset] [(.int (own_v0_243 p1 p2 p3))]))
    refine own_istore X49 at_246 (pc' := 248) rfl (y := (own_v0_243 p1 p2 p3)) rfl (Ls' := #[.val (.int p1), .val (.int p2), .val (.int p3), .val (.int (own_v0_7 p1)), .val (.int (p2 &&& (3 : Int32))), .val (.int (p3.toInt8.toInt32)), .val (.ref b1), .val (.ref b9), .val (.int (1 : Int32)), .val (.int (own_v0_243 p1 p2 p3))]) rfl ?_
    refine own_iload X49 at_248 (pc' := 250) rfl (v := (own_v0_243 p1 p2 p3)) rfl ?_
    refine own_iload X49 at_250 (pc' := 252) rfl (v := (1 : Int32)) rfl ?_
    by_cases hc54 : (own_v0_243 p1 p2 p3) = (1 : Int32)
    · refine own_icmpN X49 at_252 (teq hc54).2 (pc' := 255) rfl ?_
      refine own_aload X49 at_255 (pc' := 257) rfl (v := (.ref b1)) rfl rfl ?_
      refine own_aload X49 at_257 (pc' := 259) rfl (v := (.ref b9)) rfl rfl ?_
      refine own_callS X49 (argsL := [(.ref b1), (.ref b9)]) (S := []) (own_rm3 l Z a0 hw b1 (own_F2_a2 (own_v0_7 p1) [((p3.toInt8.toInt32).toInt8.toInt32), ((p3.toInt8.toInt32).toInt8.toInt32), ((p3.toInt8.toInt32).toInt8.toInt32), ((p3.toInt8.toInt32).toInt8.toInt32), ((p3.toInt8.toInt32).toInt8.toInt32), ((p3.toInt8.toInt32).toInt8.toInt32), ((p3.toInt8.toInt32).toInt8.toInt32), ((p3.toInt8.toInt32).toInt8.toInt32)] (p2 &&& (3 : Int32))) b9 (List.set [((p3.toInt8.toInt32).toInt8.toInt32), ((p3.toInt8.toInt32).toInt8.toInt32), ((p3.toInt8.toInt32).toInt8.toInt32), ((p3.toInt8.toInt32).toInt8.toInt32), ((p3.toInt8.toInt32).toInt8.toInt32), ((p3.toInt8.toInt32).toInt8.toInt32), ((p3.toInt8.toInt32).toInt8.toInt32), ((p3.toInt8.toInt32).toInt8.toInt32)] ((p2 &&& (3 : Int32)).toNatClampNeg) (own_v0_59 p1)) h46 n0 X49.2.2.2.2.2.2.2.2.1 V52 V53) (hw _ (List.mem_of_getElem? (i := 11) rfl)) (hw _ (List.mem_of_getElem? (i := 12) rfl)) (hw _ (List.mem_of_getElem? (i := 5) rfl)) (hw _ (List.mem_of_getElem? (i := 13) rfl)) (by decide) (by decide) 0 (by decide) rfl own_pd2 rfl rfl (Nat.le_of_eq rfl) (by decide) (by decide) at_259 (pc' := 262) rfl fun T55 h56 lc57 r58 X59 Q60 => ?_
      obtain ⟨rfl, e61⟩ := Q60
      replace e61 := e61.symm
      subst e61
      show own_E p e below _ (T55.setTop (mkF m 262 #[.val (.int p1), .val (.int p2), .val (.int p3), .val (.int (own_v0_7 p1)), .val (.int (p2 &&& (3 : Int32))), .val (.int (p3.toInt8.toInt32)), .val (.ref b1), .val (.ref b9), .val (.int (1 : Int32)), .val (.int (own_v0_243 p1 p2 p3))] [(.int (own_v0_259 p1 p2 p3))]))
      by_cases hc62 : (own_v0_259 p1 p2 p3) = (0 : Int32)
      · refine own_ifY X59 at_262 (teq hc62).1 (by decide) (pc' := 269) rfl ?_
        refine own_iconst X59 at_269 (pc' := 270) rfl (z := (0 : Int32)) rfl ?_
        refine own_iret X59 (t := .boolean) (w := (0 : Int32)) hret (by simp) at_270 rfl (by decide) (by decide) ?_
        exact congrArg (fun t => some (Value.int t)) (show (0 : Int32) = own_F0 p1 p2 p3 from (by rw [own_F0, if_pos hc37, if_pos hc54, if_pos hc62]))
      · refine own_ifN X59 at_262 (feq hc62).1 (pc' := 265) rfl ?_
        refine own_iconst X59 at_265 (pc' := 266) rfl (z := (1 : Int32)) rfl ?_
        refine own_goto X59 at_266 (by decide) (pc' := 270) rfl ?_
        refine own_iret X59 (t := .boolean) (w := (1 : Int32)) hret (by simp) at_270 rfl (by decide) (by decide) ?_
        exact congrArg (fun t => some (Value.int t)) (show (1 : Int32) = own_F0 p1 p2 p3 from (by rw [own_F0, if_pos hc37, if_pos hc54, if_neg hc62]))
    · refine own_icmpY X49 at_252 (feq hc54).2 (by decide) (pc' := 269) rfl ?_
      refine own_iconst X49 at_269 (pc' := 270) rfl (z := (0 : Int32)) rfl ?_
      refine own_iret X49 (t := .boolean) (w := (0 : Int32)) hret (by simp) at_270 rfl (by decide) (by decide) ?_
      exact congrArg (fun t => some (Value.int t)) (show (0 : Int32) = own_F0 p1 p2 p3 from (by rw [own_F0, if_pos hc37, if_neg hc54]))
  · refine own_icmpY X32 at_47 (flt hc37).2.1 (by decide) (pc' := 63) rfl ?_
    refine own_iloadN X32 at_63 (pc' := 64) rfl (v := (own_v0_7 p1)) rfl ?_
    refine own_sipush X32 at_64 (pc' := 67) rfl (z := (2048 : Int32)) rfl ?_
    by_cases hc63 : (own_v0_7 p1) < (2048 : Int32)
    · refine own_icmpN X32 at_67 (tlt hc63).2.1 (pc' := 70) rfl ?_
      refine own_iconst X32 at_70 (pc' := 71) rfl (z := (2 : Int32)) rfl ?_
      refine own_istore X32 at_71 (pc' := 73) rfl (y := (2 : Int32)) rfl (Ls' := #[.val (.int p1), .val (.int p2), .val (.int p3), .val (.int (own_v0_7 p1)), .val (.int (p2 &&& (3 : Int32))), .val (.int (p3.toInt8.toInt32)), .val (.ref b1), .val (.ref b9), .val (.int (2 : Int32)), .unset]) rfl ?_
      refine own_aload X32 at_73 (pc' := 75) rfl (v := (.ref b9)) rfl rfl ?_
      refine own_iload X32 at_75 (pc' := 77) rfl (v := (p2 &&& (3 : Int32))) rfl ?_
      refine own_sipush X32 at_77 (pc' := 80) rfl (z := (192 : Int32)) rfl ?_
      refine own_iloadN X32 at_80 (pc' := 81) rfl (v := (own_v0_7 p1)) rfl ?_
      refine own_bipush X32 at_81 (pc' := 83) rfl (z := (6 : Int32)) rfl ?_
      refine own_ishr X32 at_83 (pc' := 84) rfl (z := ((own_v0_7 p1) >>> (6 : Int32))) rfl ?_
      refine own_ior X32 at_84 (pc' := 85) rfl (z := ((192 : Int32) ||| ((own_v0_7 p1) >>> (6 : Int32)))) rfl ?_
      refine own_i2b X32 at_85 (pc' := 86) rfl (z := (((192 : Int32) ||| ((own_v0_7 p1) >>> (6 : Int32))).toInt8.toInt32)) rfl ?_
      refine own_bastore X32 V35 g15 (y := (own_v0_86 p1)) (own_nb _) ((p2 &&& (3 : Int32)).toNatClampNeg) rfl (own_a0 p2) (own_at0 (own_a3 p2)) at_86 (pc' := 87) rfl fun T64 h65 lc67 X66 W68 V69 => ?_
      have V70 := V36.other W68 ne17
      refine own_aload X66 at_87 (pc' := 89) rfl (v := (.ref b9)) rfl rfl ?_
      refine own_iload X66 at_89 (pc' := 91) rfl (v := (p2 &&& (3 : Int32))) rfl ?_
      refine own_iconst X66 at_91 (pc' := 92) rfl (z := (1 : Int32)) rfl ?_
      refine own_iadd X66 at_92 (pc' := 93) rfl (z := ((p2 &&& (3 : Int32)) + (1 : Int32))) rfl ?_
      refine own_sipush X66 at_93 (pc' := 96) rfl (z := (128 : Int32)) rfl ?_
      refine own_iloadN X66 at_96 (pc' := 97) rfl (v := (own_v0_7 p1)) rfl ?_
      refine own_bipush X66 at_97 (pc' := 99) rfl (z := (63 : Int32)) rfl ?_
      refine own_iand X66 at_99 (pc' := 100) rfl (z := ((own_v0_7 p1) &&& (63 : Int32))) rfl ?_
      refine own_ior X66 at_100 (pc' := 101) rfl (z := ((128 : Int32) ||| ((own_v0_7 p1) &&& (63 : Int32)))) rfl ?_
      refine own_i2b X66 at_101 (pc' := 102) rfl (z := (((128 : Int32) ||| ((own_v0_7 p1) &&& (63 : Int32))).toInt8.toInt32)) rfl ?_
      refine own_bastore X66 V69 g15 (y := (own_v0_102 p1)) (own_nb _) (((p2 &&& (3 : Int32)) + (1 : Int32)).toNatClampNeg) rfl (own_at (own_a0 p2) (own_a3 p2) (by decide) (by decide)).2.1 (own_at (own_a0 p2) (own_a3 p2) (by decide) (by decide)).2.2 at_102 (pc' := 103) rfl fun T71 h72 lc74 X73 W75 V76 => ?_
      have V77 := V70.other W75 ne17
      refine own_goto X73 at_103 (by decide) (pc' := 238) rfl ?_
      refine own_iloadN X73 at_238 (pc' := 239) rfl (v := (own_v0_7 p1)) rfl ?_
      refine own_aload X73 at_239 (pc' := 241) rfl (v := (.ref b1)) rfl rfl ?_
      refine own_iload X73 at_241 (pc' := 243) rfl (v := (p2 &&& (3 : Int32))) rfl ?_
      refine own_callS X73 (argsL := [(.int (own_v0_7 p1)), (.ref b1), (.int (p2 &&& (3 : Int32)))]) (S := []) (own_rm2 l Z a0 hw (own_v0_7 p1) b1 [((p3.toInt8.toInt32).toInt8.toInt32), ((p3.toInt8.toInt32).toInt8.toInt32), ((p3.toInt8.toInt32).toInt8.toInt32), ((p3.toInt8.toInt32).toInt8.toInt32), ((p3.toInt8.toInt32).toInt8.toInt32), ((p3.toInt8.toInt32).toInt8.toInt32), ((p3.toInt8.toInt32).toInt8.toInt32), ((p3.toInt8.toInt32).toInt8.toInt32)] (p2 &&& (3 : Int32)) h72 n0 X73.2.2.2.2.2.2.2.2.1 V77 g7 (own_a0 p2) (own_a3 p2)) (hw _ (List.mem_of_getElem? (i := 7) rfl)) (hw _ (List.mem_of_getElem? (i := 8) rfl)) (hw _ (List.mem_of_getElem? (i := 9) rfl)) (hw _ (List.mem_of_getElem? (i := 10) rfl)) (by decide) (by decide) 0 (by decide) rfl own_pd1 rfl rfl (Nat.le_of_eq rfl) (by decide) (by decide) at_243 (pc' := 246) rfl fun T78 h79 lc80 r81 X82 Q83 => ?_
      obtain ⟨rfl, K84, V85⟩ := Q83
      have V86 := V76.keep K84 (ninS (Ne.symm ne17) nin0)
      show own_E p e below _ (T78.setTop (mkF m 246 #[.val (.int p1), .val (.int p2), .val (.int p3), .val (.int (own_v0_7 p1)), .val (.int (p2 &&& (3 : Int32))), .val (.int (p3.toInt8.toInt32)), .val (.ref b1), .val (.ref b9), .val (.int (2 : Int32)), .unset] [(.int (own_v0_243 p1 p2 p3))]))
      refine own_istore X82 at_246 (pc' := 248) rfl (y := (own_v0_243 p1 p2 p3)) rfl (Ls' := #[.val (.int p1), .val (.int p2), .val (.int p3), .val (.int (own_v0_7 p1)), .val (.int (p2 &&& (3 : Int32))), .val (.int (p3.toInt8.toInt32)), .val (.ref b1), .val (.ref b9), .val (.int (2 : Int32)), .val (.int (own_v0_243 p1 p2 p3))]) rfl ?_
      refine own_iload X82 at_248 (pc' := 250) rfl (v := (own_v0_243 p1 p2 p3)) rfl ?_
      refine own_iload X82 at_250 (pc' := 252) rfl (v := (2 : Int32)) rfl ?_
      by_cases hc87 : (own_v0_243 p1 p2 p3) = (2 : Int32)
      · refine own_icmpN X82 at_252 (teq hc87).2 (pc' := 255) rfl ?_
        refine own_aload X82 at_255 (pc' := 257) rfl (v := (.ref b1)) rfl rfl ?_
        refine own_aload X82 at_257 (pc' := 259) rfl (v := (.ref b9)) rfl rfl ?_
        refine own_callS X82 (argsL := [(.ref b1), (.ref b9)]) (S := []) (own_rm3 l Z a0 hw b1 (own_F2_a2 (own_v0_7 p1) [((p3.toInt8.toInt32).toInt8.toInt32), ((p3.toInt8.toInt32).toInt8.toInt32), ((p3.toInt8.toInt32).toInt8.toInt32), ((p3.toInt8.toInt32).toInt8.toInt32), ((p3.toInt8.toInt32).toInt8.toInt32), ((p3.toInt8.toInt32).toInt8.toInt32), ((p3.toInt8.toInt32).toInt8.toInt32), ((p3.toInt8.toInt32).toInt8.toInt32)] (p2 &&& (3 : Int32))) b9 (List.set (List.set [((p3.toInt8.toInt32).toInt8.toInt32), ((p3.toInt8.toInt32).toInt8.toInt32), ((p3.toInt8.toInt32).toInt8.toInt32), ((p3.toInt8.toInt32).toInt8.toInt32), ((p3.toInt8.toInt32).toInt8.toInt32), ((p3.toInt8.toInt32).toInt8.toInt32), ((p3.toInt8.toInt32).toInt8.toInt32), ((p3.toInt8.toInt32).toInt8.toInt32)] ((p2 &&& (3 : Int32)).toNatClampNeg) (own_v0_86 p1)) (((p2 &&& (3 : Int32)) + (1 : Int32)).toNatClampNeg) (own_v0_102 p1)) h79 n0 X82.2.2.2.2.2.2.2.2.1 V85 V86) (hw _ (List.mem_of_getElem? (i := 11) rfl)) (hw _ (List.mem_of_getElem? (i := 12) rfl)) (hw _ (List.mem_of_getElem? (i := 5) rfl)) (hw _ (List.mem_of_getElem? (i := 13) rfl)) (by decide) (by decide) 0 (by decide) rfl own_pd2 rfl rfl (Nat.le_of_eq rfl) (by decide) (by decide) at_259 (pc' := 262) rfl fun T88 h89 lc90 r91 X92 Q93 => ?_
        obtain ⟨rfl, e94⟩ := Q93
        replace e94 := e94.symm
        subst e94
        show own_E p e below _ (T88.setTop (mkF m 262 #[.val (.int p1), .val (.int p2), .val (.int p3), .val (.int (own_v0_7 p1)), .val (.int (p2 &&& (3 : Int32))), .val (.int (p3.toInt8.toInt32)), .val (.ref b1), .val (.ref b9), .val (.int (2 : Int32)), .val (.int (own_v0_243 p1 p2 p3))] [(.int (own_v0_259_1 p1 p2 p3))]))
        by_cases hc95 : (own_v0_259_1 p1 p2 p3) = (0 : Int32)
        · refine own_ifY X92 at_262 (teq hc95).1 (by decide) (pc' := 269) rfl ?_
          refine own_iconst X92 at_269 (pc' := 270) rfl (z := (0 : Int32)) rfl ?_
          refine own_iret X92 (t := .boolean) (w := (0 : Int32)) hret (by simp) at_270 rfl (by decide) (by decide) ?_
          exact congrArg (fun t => some (Value.int t)) (show (0 : Int32) = own_F0 p1 p2 p3 from (by rw [own_F0, if_neg hc37, if_pos hc63, if_pos hc87, if_pos hc95]))
        · refine own_ifN X92 at_262 (feq hc95).1 (pc' := 265) rfl ?_
          refine own_iconst X92 at_265 (pc' := 266) rfl (z := (1 : Int32)) rfl ?_
          refine own_goto X92 at_266 (by decide) (pc' := 270) rfl ?_
          refine own_iret X92 (t := .boolean) (w := (1 : Int32)) hret (by simp) at_270 rfl (by decide) (by decide) ?_
          exact congrArg (fun t => some (Value.int t)) (show (1 : Int32) = own_F0 p1 p2 p3 from (by rw [own_F0, if_neg hc37, if_pos hc63, if_pos hc87, if_neg hc95]))
      · refine own_icmpY X82 at_252 (feq hc87).2 (by decide) (pc' := 269) rfl ?_
        refine own_iconst X82 at_269 (pc' := 270) rfl (z := (0 : Int32)) rfl ?_
        refine own_iret X82 (t := .boolean) (w := (0 : Int32)) hret (by simp) at_270 rfl (by decide) (by decide) ?_
        exact congrArg (fun t => some (Value.int t)) (show (0 : Int32) = own_F0 p1 p2 p3 from (by rw [own_F0, if_neg hc37, if_pos hc63, if_neg hc87]))
    · refine own_icmpY X32 at_67 (flt hc63).2.1 (by decide) (pc' := 106) rfl ?_
      refine own_iloadN X32 at_106 (pc' := 107) rfl (v := (own_v0_7 p1)) rfl ?_
      refine own_ldc X32 (hw _ (List.mem_of_getElem? (i := 14) rfl)) at_107 (pc' := 109) rfl ?_
      by_cases hc96 : (own_v0_7 p1) < (65536 : Int32)
      · refine own_icmpN X32 at_109 (tlt hc96).2.1 (pc' := 112) rfl ?_
        refine own_iconst X32 at_112 (pc' := 113) rfl (z := (3 : Int32)) rfl ?_
        refine own_istore X32 at_113 (pc' := 115) rfl (y := (3 : Int32)) rfl (Ls' := #[.val (.int p1), .val (.int p2), .val (.int p3), .val (.int (own_v0_7 p1)), .val (.int (p2 &&& (3 : Int32))), .val (.int (p3.toInt8.toInt32)), .val (.ref b1), .val (.ref b9), .val (.int (3 : Int32)), .unset]) rfl ?_
        refine own_aload X32 at_115 (pc' := 117) rfl (v := (.ref b9)) rfl rfl ?_
        refine own_iload X32 at_117 (pc' := 119) rfl (v := (p2 &&& (3 : Int32))) rfl ?_
        refine own_sipush X32 at_119 (pc' := 122) rfl (z := (224 : Int32)) rfl ?_
        refine own_iloadN X32 at_122 (pc' := 123) rfl (v := (own_v0_7 p1)) rfl ?_
        refine own_bipush X32 at_123 (pc' := 125) rfl (z := (12 : Int32)) rfl ?_
        refine own_ishr X32 at_125 (pc' := 126) rfl (z := ((own_v0_7 p1) >>> (12 : Int32))) rfl ?_
        refine own_ior X32 at_126 (pc' := 127) rfl (z := ((224 : Int32) ||| ((own_v0_7 p1) >>> (12 : Int32)))) rfl ?_
        refine own_i2b X32 at_127 (pc' := 128) rfl (z := (((224 : Int32) ||| ((own_v0_7 p1) >>> (12 : Int32))).toInt8.toInt32)) rfl ?_
        refine own_bastore X32 V35 g15 (y := (own_v0_128 p1)) (own_nb _) ((p2 &&& (3 : Int32)).toNatClampNeg) rfl (own_a0 p2) (own_at0 (own_a3 p2)) at_128 (pc' := 129) rfl fun T97 h98 lc100 X99 W101 V102 => ?_
        have V103 := V36.other W101 ne17
        refine own_aload X99 at_129 (pc' := 131) rfl (v := (.ref b9)) rfl rfl ?_
        refine own_iload X99 at_131 (pc' := 133) rfl (v := (p2 &&& (3 : Int32))) rfl ?_
        refine own_iconst X99 at_133 (pc' := 134) rfl (z := (1 : Int32)) rfl ?_
        refine own_iadd X99 at_134 (pc' := 135) rfl (z := ((p2 &&& (3 : Int32)) + (1 : Int32))) rfl ?_
        refine own_sipush X99 at_135 (pc' := 138) rfl (z := (128 : Int32)) rfl ?_
        refine own_iloadN X99 at_138 (pc' := 139) rfl (v := (own_v0_7 p1)) rfl ?_
        refine own_bipush X99 at_139 (pc' := 141) rfl (z := (6 : Int32)) rfl ?_
        refine own_ishr X99 at_141 (pc' := 142) rfl (z := ((own_v0_7 p1) >>> (6 : Int32))) rfl ?_
        refine own_bipush X99 at_142 (pc' := 144) rfl (z := (63 : Int32)) rfl ?_
        refine own_iand X99 at_144 (pc' := 145) rfl (z := (((own_v0_7 p1) >>> (6 : Int32)) &&& (63 : Int32))) rfl ?_
        refine own_ior X99 at_145 (pc' := 146) rfl (z := ((128 : Int32) ||| (((own_v0_7 p1) >>> (6 : Int32)) &&& (63 : Int32)))) rfl ?_
        refine own_i2b X99 at_146 (pc' := 147) rfl (z := (((128 : Int32) ||| (((own_v0_7 p1) >>> (6 : Int32)) &&& (63 : Int32))).toInt8.toInt32)) rfl ?_
        refine own_bastore X99 V102 g15 (y := (own_v0_147 p1)) (own_nb _) (((p2 &&& (3 : Int32)) + (1 : Int32)).toNatClampNeg) rfl (own_at (own_a0 p2) (own_a3 p2) (by decide) (by decide)).2.1 (own_at (own_a0 p2) (own_a3 p2) (by decide) (by decide)).2.2 at_147 (pc' := 148) rfl fun T104 h105 lc107 X106 W108 V109 => ?_
        have V110 := V103.other W108 ne17
        refine own_aload X106 at_148 (pc' := 150) rfl (v := (.ref b9)) rfl rfl ?_
        refine own_iload X106 at_150 (pc' := 152) rfl (v := (p2 &&& (3 : Int32))) rfl ?_
        refine own_iconst X106 at_152 (pc' := 153) rfl (z := (2 : Int32)) rfl ?_
        refine own_iadd X106 at_153 (pc' := 154) rfl (z := ((p2 &&& (3 : Int32)) + (2 : Int32))) rfl ?_
        refine own_sipush X106 at_154 (pc' := 157) rfl (z := (128 : Int32)) rfl ?_
        refine own_iloadN X106 at_157 (pc' := 158) rfl (v := (own_v0_7 p1)) rfl ?_
        refine own_bipush X106 at_158 (pc' := 160) rfl (z := (63 : Int32)) rfl ?_
        refine own_iand X106 at_160 (pc' := 161) rfl (z := ((own_v0_7 p1) &&& (63 : Int32))) rfl ?_
        refine own_ior X106 at_161 (pc' := 162) rfl (z := ((128 : Int32) ||| ((own_v0_7 p1) &&& (63 : Int32)))) rfl ?_
        refine own_i2b X106 at_162 (pc' := 163) rfl (z := (((128 : Int32) ||| ((own_v0_7 p1) &&& (63 : Int32))).toInt8.toInt32)) rfl ?_
        refine own_bastore X106 V109 g15 (y := (own_v0_102 p1)) (own_nb _) (((p2 &&& (3 : Int32)) + (2 : Int32)).toNatClampNeg) rfl (own_at (own_a0 p2) (own_a3 p2) (by decide) (by decide)).2.1 (own_at (own_a0 p2) (own_a3 p2) (by decide) (by decide)).2.2 at_163 (pc' := 164) rfl fun T111 h112 lc114 X113 W115 V116 => ?_
        have V117 := V110.other W115 ne17
        refine own_goto X113 at_164 (by decide) (pc' := 238) rfl ?_
        refine own_iloadN X113 at_238 (pc' := 239) rfl (v := (own_v0_7 p1)) rfl ?_
        refine own_aload X113 at_239 (pc' := 241) rfl (v := (.ref b1)) rfl rfl ?_
        refine own_iload X113 at_241 (pc' := 243) rfl (v := (p2 &&& (3 : Int32))) rfl ?_
        refine own_callS X113 (argsL := [(.int (own_v0_7 p1)), (.ref b1), (.int (p2 &&& (3 : Int32)))]) (S := []) (own_rm2 l Z a0 hw (own_v0_7 p1) b1 [((p3.toInt8.toInt32).toInt8.toInt32), ((p3.toInt8.toInt32).toInt8.toInt32), ((p3.toInt8.toInt32).toInt8.toInt32), ((p3.toInt8.toInt32).toInt8.toInt32), ((p3.toInt8.toInt32).toInt8.toInt32), ((p3.toInt8.toInt32).toInt8.toInt32), ((p3.toInt8.toInt32).toInt8.toInt32), ((p3.toInt8.toInt32).toInt8.toInt32)] (p2 &&& (3 : Int32)) h112 n0 X113.2.2.2.2.2.2.2.2.1 V117 g7 (own_a0 p2) (own_a3 p2)) (hw _ (List.mem_of_getElem? (i := 7) rfl)) (hw _ (List.mem_of_getElem? (i := 8) rfl)) (hw _ (List.mem_of_getElem? (i := 9) rfl)) (hw _ (List.mem_of_getElem? (i := 10) rfl)) (by decide) (by decide) 0 (by decide) rfl own_pd1 rfl rfl (Nat.le_of_eq rfl) (by decide) (by decide) at_243 (pc' := 246) rfl fun T118 h119 lc120 r121 X122 Q123 => ?_
        obtain ⟨rfl, K124, V125⟩ := Q123
        have V126 := V116.keep K124 (ninS (Ne.symm ne17) nin0)
        show own_E p e below _ (T118.setTop (mkF m 246 #[.val (.int p1), .val (.int p2), .val (.int p3), .val (.int (own_v0_7 p1)), .val (.int (p2 &&& (3 : Int32))), .val (.int (p3.toInt8.toInt32)), .val (.ref b1), .val (.ref b9), .val (.int (3 : Int32)), .unset] [(.int (own_v0_243 p1 p2 p3))]))
        refine own_istore X122 at_246 (pc' := 248) rfl (y := (own_v0_243 p1 p2 p3)) rfl (Ls' := #[.val (.int p1), .val (.int p2), .val (.int p3), .val (.int (own_v0_7 p1)), .val (.int (p2 &&& (3 : Int32))), .val (.int (p3.toInt8.toInt32)), .val (.ref b1), .val (.ref b9), .val (.int (3 : Int32)), .val (.int (own_v0_243 p1 p2 p3))]) rfl ?_
        refine own_iload X122 at_248 (pc' := 250) rfl (v := (own_v0_243 p1 p2 p3)) rfl ?_
        refine own_iload X122 at_250 (pc' := 252) rfl (v := (3 : Int32)) rfl ?_
        by_cases hc127 : (own_v0_243 p1 p2 p3) = (3 : Int32)
        · refine own_icmpN X122 at_252 (teq hc127).2 (pc' := 255) rfl ?_
          refine own_aload X122 at_255 (pc' := 257) rfl (v := (.ref b1)) rfl rfl ?_
          refine own_aload X122 at_257 (pc' := 259) rfl (v := (.ref b9)) rfl rfl ?_
          refine own_callS X122 (argsL := [(.ref b1), (.ref b9)]) (S := []) (own_rm3 l Z a0 hw b1 (own_F2_a2 (own_v0_7 p1) [((p3.toInt8.toInt32).toInt8.toInt32), ((p3.toInt8.toInt32).toInt8.toInt32), ((p3.toInt8.toInt32).toInt8.toInt32), ((p3.toInt8.toInt32).toInt8.toInt32), ((p3.toInt8.toInt32).toInt8.toInt32), ((p3.toInt8.toInt32).toInt8.toInt32), ((p3.toInt8.toInt32).toInt8.toInt32), ((p3.toInt8.toInt32).toInt8.toInt32)] (p2 &&& (3 : Int32))) b9 (List.set (List.set (List.set [((p3.toInt8.toInt32).toInt8.toInt32), ((p3.toInt8.toInt32).toInt8.toInt32), ((p3.toInt8.toInt32).toInt8.toInt32), ((p3.toInt8.toInt32).toInt8.toInt32), ((p3.toInt8.toInt32).toInt8.toInt32), ((p3.toInt8.toInt32).toInt8.toInt32), ((p3.toInt8.toInt32).toInt8.toInt32), ((p3.toInt8.toInt32).toInt8.toInt32)] ((p2 &&& (3 : Int32)).toNatClampNeg) (own_v0_128 p1)) (((p2 &&& (3 : Int32)) + (1 : Int32)).toNatClampNeg) (own_v0_147 p1)) (((p2 &&& (3 : Int32)) + (2 : Int32)).toNatClampNeg) (own_v0_102 p1)) h119 n0 X122.2.2.2.2.2.2.2.2.1 V125 V126) (hw _ (List.mem_of_getElem? (i := 11) rfl)) (hw _ (List.mem_of_getElem? (i := 12) rfl)) (hw _ (List.mem_of_getElem? (i := 5) rfl)) (hw _ (List.mem_of_getElem? (i := 13) rfl)) (by decide) (by decide) 0 (by decide) rfl own_pd2 rfl rfl (Nat.le_of_eq rfl) (by decide) (by decide) at_259 (pc' := 262) rfl fun T128 h129 lc130 r131 X132 Q133 => ?_
          obtain ⟨rfl, e134⟩ := Q133
          replace e134 := e134.symm
          subst e134
          show own_E p e below _ (T128.setTop (mkF m 262 #[.val (.int p1), .val (.int p2), .val (.int p3), .val (.int (own_v0_7 p1)), .val (.int (p2 &&& (3 : Int32))), .val (.int (p3.toInt8.toInt32)), .val (.ref b1), .val (.ref b9), .val (.int (3 : Int32)), .val (.int (own_v0_243 p1 p2 p3))] [(.int (own_v0_259_2 p1 p2 p3))]))
          by_cases hc135 : (own_v0_259_2 p1 p2 p3) = (0 : Int32)
          · refine own_ifY X132 at_262 (teq hc135).1 (by decide) (pc' := 269) rfl ?_
            refine own_iconst X132 at_269 (pc' := 270) rfl (z := (0 : Int32)) rfl ?_
            refine own_iret X132 (t := .boolean) (w := (0 : Int32)) hret (by simp) at_270 rfl (by decide) (by decide) ?_
            exact congrArg (fun t => some (Value.int t)) (show (0 : Int32) = own_F0 p1 p2 p3 from (by rw [own_F0, if_neg hc37, if_neg hc63, if_pos hc96, if_pos hc127, if_pos hc135]))
          · refine own_ifN X132 at_262 (feq hc135).1 (pc' := 265) rfl ?_
            refine own_iconst X132 at_265 (pc' := 266) rfl (z := (1 : Int32)) rfl ?_
            refine own_goto X132 at_266 (by decide) (pc' := 270) rfl ?_
            refine own_iret X132 (t := .boolean) (w := (1 : Int32)) hret (by simp) at_270 rfl (by decide) (by decide) ?_
            exact congrArg (fun t => some (Value.int t)) (show (1 : Int32) = own_F0 p1 p2 p3 from (by rw [own_F0, if_neg hc37, if_neg hc63, if_pos hc96, if_pos hc127, if_neg hc135]))
        · refine own_icmpY X122 at_252 (feq hc127).2 (by decide) (pc' := 269) rfl ?_
          refine own_iconst X122 at_269 (pc' := 270) rfl (z := (0 : Int32)) rfl ?_
          refine own_iret X122 (t := .boolean) (w := (0 : Int32)) hret (by simp) at_270 rfl (by decide) (by decide) ?_
          exact congrArg (fun t => some (Value.int t)) (show (0 : Int32) = own_F0 p1 p2 p3 from (by rw [own_F0, if_neg hc37, if_neg hc63, if_pos hc96, if_neg hc127]))
      · refine own_icmpY X32 at_109 (flt hc96).2.1 (by decide) (pc' := 167) rfl ?_
        refine own_iconst X32 at_167 (pc' := 168) rfl (z := (4 : Int32)) rfl ?_
        refine own_istore X32 at_168 (pc' := 170) rfl (y := (4 : Int32)) rfl (Ls' := #[.val (.int p1), .val (.int p2), .val (.int p3), .val (.int (own_v0_7 p1)), .val (.int (p2 &&& (3 : Int32))), .val (.int (p3.toInt8.toInt32)), .val (.ref b1), .val (.ref b9), .val (.int (4 : Int32)), .unset]) rfl ?_
        refine own_aload X32 at_170 (pc' := 172) rfl (v := (.ref b9)) rfl rfl ?_
        refine own_iload X32 at_172 (pc' := 174) rfl (v := (p2 &&& (3 : Int32))) rfl ?_
        refine own_sipush X32 at_174 (pc' := 177) rfl (z := (240 : Int32)) rfl ?_
        refine own_iloadN X32 at_177 (pc' := 178) rfl (v := (own_v0_7 p1)) rfl ?_
        refine own_bipush X32 at_178 (pc' := 180) rfl (z := (18 : Int32)) rfl ?_
        refine own_ishr X32 at_180 (pc' := 181) rfl (z := ((own_v0_7 p1) >>> (18 : Int32))) rfl ?_
        refine own_ior X32 at_181 (pc' := 182) rfl (z := ((240 : Int32) ||| ((own_v0_7 p1) >>> (18 : Int32)))) rfl ?_
        refine own_i2b X32 at_182 (pc' := 183) rfl (z := (((240 : Int32) ||| ((own_v0_7 p1) >>> (18 : Int32))).toInt8.toInt32)) rfl ?_
        refine own_bastore X32 V35 g15 (y := (own_v0_183 p1)) (own_nb _) ((p2 &&& (3 : Int32)).toNatClampNeg) rfl (own_a0 p2) (own_at0 (own_a3 p2)) at_183 (pc' := 184) rfl fun T136 h137 lc139 X138 W140 V141 => ?_
        have V142 := V36.other W140 ne17
        refine own_aload X138 at_184 (pc' := 186) rfl (v := (.ref b9)) rfl rfl ?_
        refine own_iload X138 at_186 (pc' := 188) rfl (v := (p2 &&& (3 : Int32))) rfl ?_
        refine own_iconst X138 at_188 (pc' := 189) rfl (z := (1 : Int32)) rfl ?_
        refine own_iadd X138 at_189 (pc' := 190) rfl (z := ((p2 &&& (3 : Int32)) + (1 : Int32))) rfl ?_
        refine own_sipush X138 at_190 (pc' := 193) rfl (z := (128 : Int32)) rfl ?_
        refine own_iloadN X138 at_193 (pc' := 194) rfl (v := (own_v0_7 p1)) rfl ?_
        refine own_bipush X138 at_194 (pc' := 196) rfl (z := (12 : Int32)) rfl ?_
        refine own_ishr X138 at_196 (pc' := 197) rfl (z := ((own_v0_7 p1) >>> (12 : Int32))) rfl ?_
        refine own_bipush X138 at_197 (pc' := 199) rfl (z := (63 : Int32)) rfl ?_
        refine own_iand X138 at_199 (pc' := 200) rfl (z := (((own_v0_7 p1) >>> (12 : Int32)) &&& (63 : Int32))) rfl ?_
        refine own_ior X138 at_200 (pc' := 201) rfl (z := ((128 : Int32) ||| (((own_v0_7 p1) >>> (12 : Int32)) &&& (63 : Int32)))) rfl ?_
        refine own_i2b X138 at_201 (pc' := 202) rfl (z := (((128 : Int32) ||| (((own_v0_7 p1) >>> (12 : Int32)) &&& (63 : Int32))).toInt8.toInt32)) rfl ?_
        refine own_bastore X138 V141 g15 (y := (own_v0_202 p1)) (own_nb _) (((p2 &&& (3 : Int32)) + (1 : Int32)).toNatClampNeg) rfl (own_at (own_a0 p2) (own_a3 p2) (by decide) (by decide)).2.1 (own_at (own_a0 p2) (own_a3 p2) (by decide) (by decide)).2.2 at_202 (pc' := 203) rfl fun T143 h144 lc146 X145 W147 V148 => ?_
        have V149 := V142.other W147 ne17
        refine own_aload X145 at_203 (pc' := 205) rfl (v := (.ref b9)) rfl rfl ?_
        refine own_iload X145 at_205 (pc' := 207) rfl (v := (p2 &&& (3 : Int32))) rfl ?_
        refine own_iconst X145 at_207 (pc' := 208) rfl (z := (2 : Int32)) rfl ?_
        refine own_iadd X145 at_208 (pc' := 209) rfl (z := ((p2 &&& (3 : Int32)) + (2 : Int32))) rfl ?_
        refine own_sipush X145 at_209 (pc' := 212) rfl (z := (128 : Int32)) rfl ?_
        refine own_iloadN X145 at_212 (pc' := 213) rfl (v := (own_v0_7 p1)) rfl ?_
        refine own_bipush X145 at_213 (pc' := 215) rfl (z := (6 : Int32)) rfl ?_
        refine own_ishr X145 at_215 (pc' := 216) rfl (z := ((own_v0_7 p1) >>> (6 : Int32))) rfl ?_
        refine own_bipush X145 at_216 (pc' := 218) rfl (z := (63 : Int32)) rfl ?_
        refine own_iand X145 at_218 (pc' := 219) rfl (z := (((own_v0_7 p1) >>> (6 : Int32)) &&& (63 : Int32))) rfl ?_
        refine own_ior X145 at_219 (pc' := 220) rfl (z := ((128 : Int32) ||| (((own_v0_7 p1) >>> (6 : Int32)) &&& (63 : Int32)))) rfl ?_
        refine own_i2b X145 at_220 (pc' := 221) rfl (z := (((128 : Int32) ||| (((own_v0_7 p1) >>> (6 : Int32)) &&& (63 : Int32))).toInt8.toInt32)) rfl ?_
        refine own_bastore X145 V148 g15 (y := (own_v0_147 p1)) (own_nb _) (((p2 &&& (3 : Int32)) + (2 : Int32)).toNatClampNeg) rfl (own_at (own_a0 p2) (own_a3 p2) (by decide) (by decide)).2.1 (own_at (own_a0 p2) (own_a3 p2) (by decide) (by decide)).2.2 at_221 (pc' := 222) rfl fun T150 h151 lc153 X152 W154 V155 => ?_
        have V156 := V149.other W154 ne17
        refine own_aload X152 at_222 (pc' := 224) rfl (v := (.ref b9)) rfl rfl ?_
        refine own_iload X152 at_224 (pc' := 226) rfl (v := (p2 &&& (3 : Int32))) rfl ?_
        refine own_iconst X152 at_226 (pc' := 227) rfl (z := (3 : Int32)) rfl ?_
        refine own_iadd X152 at_227 (pc' := 228) rfl (z := ((p2 &&& (3 : Int32)) + (3 : Int32))) rfl ?_
        refine own_sipush X152 at_228 (pc' := 231) rfl (z := (128 : Int32)) rfl ?_
        refine own_iloadN X152 at_231 (pc' := 232) rfl (v := (own_v0_7 p1)) rfl ?_
        refine own_bipush X152 at_232 (pc' := 234) rfl (z := (63 : Int32)) rfl ?_
        refine own_iand X152 at_234 (pc' := 235) rfl (z := ((own_v0_7 p1) &&& (63 : Int32))) rfl ?_
        refine own_ior X152 at_235 (pc' := 236) rfl (z := ((128 : Int32) ||| ((own_v0_7 p1) &&& (63 : Int32)))) rfl ?_
        refine own_i2b X152 at_236 (pc' := 237) rfl (z := (((128 : Int32) ||| ((own_v0_7 p1) &&& (63 : Int32))).toInt8.toInt32)) rfl ?_
        refine own_bastore X152 V155 g15 (y := (own_v0_102 p1)) (own_nb _) (((p2 &&& (3 : Int32)) + (3 : Int32)).toNatClampNeg) rfl (own_at (own_a0 p2) (own_a3 p2) (by decide) (by decide)).2.1 (own_at (own_a0 p2) (own_a3 p2) (by decide) (by decide)).2.2 at_237 (pc' := 238) rfl fun T157 h158 lc160 X159 W161 V162 => ?_
        have V163 := V156.other W161 ne17
        refine own_iloadN X159 at_238 (pc' := 239) rfl (v := (own_v0_7 p1)) rfl ?_
        refine own_aload X159 at_239 (pc' := 241) rfl (v := (.ref b1)) rfl rfl ?_
        refine own_iload X159 at_241 (pc' := 243) rfl (v := (p2 &&& (3 : Int32))) rfl ?_
        refine own_callS X159 (argsL := [(.int (own_v0_7 p1)), (.ref b1), (.int (p2 &&& (3 : Int32)))]) (S := []) (own_rm2 l Z a0 hw (own_v0_7 p1) b1 [((p3.toInt8.toInt32).toInt8.toInt32), ((p3.toInt8.toInt32).toInt8.toInt32), ((p3.toInt8.toInt32).toInt8.toInt32), ((p3.toInt8.toInt32).toInt8.toInt32), ((p3.toInt8.toInt32).toInt8.toInt32), ((p3.toInt8.toInt32).toInt8.toInt32), ((p3.toInt8.toInt32).toInt8.toInt32), ((p3.toInt8.toInt32).toInt8.toInt32)] (p2 &&& (3 : Int32)) h158 n0 X159.2.2.2.2.2.2.2.2.1 V163 g7 (own_a0 p2) (own_a3 p2)) (hw _ (List.mem_of_getElem? (i := 7) rfl)) (hw _ (List.mem_of_getElem? (i := 8) rfl)) (hw _ (List.mem_of_getElem? (i := 9) rfl)) (hw _ (List.mem_of_getElem? (i := 10) rfl)) (by decide) (by decide) 0 (by decide) rfl own_pd1 rfl rfl (Nat.le_of_eq rfl) (by decide) (by decide) at_243 (pc' := 246) rfl fun T164 h165 lc166 r167 X168 Q169 => ?_
        obtain ⟨rfl, K170, V171⟩ := Q169
        have V172 := V162.keep K170 (ninS (Ne.symm ne17) nin0)
        show own_E p e below _ (T164.setTop (mkF m 246 #[.val (.int p1), .val (.int p2), .val (.int p3), .val (.int (own_v0_7 p1)), .val (.int (p2 &&& (3 : Int32))), .val (.int (p3.toInt8.toInt32)), .val (.ref b1), .val (.ref b9), .val (.int (4 : Int32)), .unset] [(.int (own_v0_243 p1 p2 p3))]))
        refine own_istore X168 at_246 (pc' := 248) rfl (y := (own_v0_243 p1 p2 p3)) rfl (Ls' := #[.val (.int p1), .val (.int p2), .val (.int p3), .val (.int (own_v0_7 p1)), .val (.int (p2 &&& (3 : Int32))), .val (.int (p3.toInt8.toInt32)), .val (.ref b1), .val (.ref b9), .val (.int (4 : Int32)), .val (.int (own_v0_243 p1 p2 p3))]) rfl ?_
        refine own_iload X168 at_248 (pc' := 250) rfl (v := (own_v0_243 p1 p2 p3)) rfl ?_
        refine own_iload X168 at_250 (pc' := 252) rfl (v := (4 : Int32)) rfl ?_
        by_cases hc173 : (own_v0_243 p1 p2 p3) = (4 : Int32)
        · refine own_icmpN X168 at_252 (teq hc173).2 (pc' := 255) rfl ?_
          refine own_aload X168 at_255 (pc' := 257) rfl (v := (.ref b1)) rfl rfl ?_
          refine own_aload X168 at_257 (pc' := 259) rfl (v := (.ref b9)) rfl rfl ?_
          refine own_callS X168 (argsL := [(.ref b1), (.ref b9)]) (S := []) (own_rm3 l Z a0 hw b1 (own_F2_a2 (own_v0_7 p1) [((p3.toInt8.toInt32).toInt8.toInt32), ((p3.toInt8.toInt32).toInt8.toInt32), ((p3.toInt8.toInt32).toInt8.toInt32), ((p3.toInt8.toInt32).toInt8.toInt32), ((p3.toInt8.toInt32).toInt8.toInt32), ((p3.toInt8.toInt32).toInt8.toInt32), ((p3.toInt8.toInt32).toInt8.toInt32), ((p3.toInt8.toInt32).toInt8.toInt32)] (p2 &&& (3 : Int32))) b9 (List.set (List.set (List.set (List.set [((p3.toInt8.toInt32).toInt8.toInt32), ((p3.toInt8.toInt32).toInt8.toInt32), ((p3.toInt8.toInt32).toInt8.toInt32), ((p3.toInt8.toInt32).toInt8.toInt32), ((p3.toInt8.toInt32).toInt8.toInt32), ((p3.toInt8.toInt32).toInt8.toInt32), ((p3.toInt8.toInt32).toInt8.toInt32), ((p3.toInt8.toInt32).toInt8.toInt32)] ((p2 &&& (3 : Int32)).toNatClampNeg) (own_v0_183 p1)) (((p2 &&& (3 : Int32)) + (1 : Int32)).toNatClampNeg) (own_v0_202 p1)) (((p2 &&& (3 : Int32)) + (2 : Int32)).toNatClampNeg) (own_v0_147 p1)) (((p2 &&& (3 : Int32)) + (3 : Int32)).toNatClampNeg) (own_v0_102 p1)) h165 n0 X168.2.2.2.2.2.2.2.2.1 V171 V172) (hw _ (List.mem_of_getElem? (i := 11) rfl)) (hw _ (List.mem_of_getElem? (i := 12) rfl)) (hw _ (List.mem_of_getElem? (i := 5) rfl)) (hw _ (List.mem_of_getElem? (i := 13) rfl)) (by decide) (by decide) 0 (by decide) rfl own_pd2 rfl rfl (Nat.le_of_eq rfl) (by decide) (by decide) at_259 (pc' := 262) rfl fun T174 h175 lc176 r177 X178 Q179 => ?_
          obtain ⟨rfl, e180⟩ := Q179
          replace e180 := e180.symm
          subst e180
          show own_E p e below _ (T174.setTop (mkF m 262 #[.val (.int p1), .val (.int p2), .val (.int p3), .val (.int (own_v0_7 p1)), .val (.int (p2 &&& (3 : Int32))), .val (.int (p3.toInt8.toInt32)), .val (.ref b1), .val (.ref b9), .val (.int (4 : Int32)), .val (.int (own_v0_243 p1 p2 p3))] [(.int (own_v0_259_3 p1 p2 p3))]))
          by_cases hc181 : (own_v0_259_3 p1 p2 p3) = (0 : Int32)
          · refine own_ifY X178 at_262 (teq hc181).1 (by decide) (pc' := 269) rfl ?_
            refine own_iconst X178 at_269 (pc' := 270) rfl (z := (0 : Int32)) rfl ?_
            refine own_iret X178 (t := .boolean) (w := (0 : Int32)) hret (by simp) at_270 rfl (by decide) (by decide) ?_
            exact congrArg (fun t => some (Value.int t)) (show (0 : Int32) = own_F0 p1 p2 p3 from (by rw [own_F0, if_neg hc37, if_neg hc63, if_neg hc96, if_pos hc173, if_pos hc181]))
          · refine own_ifN X178 at_262 (feq hc181).1 (pc' := 265) rfl ?_
            refine own_iconst X178 at_265 (pc' := 266) rfl (z := (1 : Int32)) rfl ?_
            refine own_goto X178 at_266 (by decide) (pc' := 270) rfl ?_
            refine own_iret X178 (t := .boolean) (w := (1 : Int32)) hret (by simp) at_270 rfl (by decide) (by decide) ?_
            exact congrArg (fun t => some (Value.int t)) (show (1 : Int32) = own_F0 p1 p2 p3 from (by rw [own_F0, if_neg hc37, if_neg hc63, if_neg hc96, if_pos hc173, if_neg hc181]))
        · refine own_icmpY X168 at_252 (feq hc173).2 (by decide) (pc' := 269) rfl ?_
          refine own_iconst X168 at_269 (pc' := 270) rfl (z := (0 : Int32)) rfl ?_
          refine own_iret X168 (t := .boolean) (w := (0 : Int32)) hret (by simp) at_270 rfl (by decide) (by decide) ?_
          exact congrArg (fun t => some (Value.int t)) (show (0 : Int32) = own_F0 p1 p2 p3 from (by rw [own_F0, if_neg hc37, if_neg hc63, if_neg hc96, if_neg hc173]))
theorem own_refl (l : List Int32) : own_F3 l l = 1 := by
  rw [own_F3, if_pos rfl, if_pos rfl, if_pos rfl, if_pos rfl, if_pos rfl, if_pos rfl, if_pos rfl, if_pos rfl]
theorem own_s6 (e : Int32) : (e >>> (6 : Int32)).toInt = e.toInt / 64 := own_shrI (k := 6) rfl (by decide)
theorem own_s12 (e : Int32) : (e >>> (12 : Int32)).toInt = e.toInt / 4096 := own_shrI (k := 12) rfl (by decide)
theorem own_b2 {c : Int32} (h0 : 0 ≤ c.toInt) (h1 : c.toInt < 2048) : own_v2_56 c = (((192 : Int32) ||| (c >>> (6 : Int32))).toInt8.toInt32) := by
  have s := own_s6 c
  have a1 : ((192 : Int32) ||| (c >>> (6 : Int32))).toInt = 192 + c.toInt / 64 := own_orI 6 (show (192 : Int32).toInt = 192 from rfl) s (by decide) (by decide) (by omega) (by omega) (by decide)
  have a2 : ((960 : Int32) ||| (c >>> (6 : Int32))).toInt = 960 + c.toInt / 64 := own_orI 6 (show (960 : Int32).toInt = 960 from rfl) s (by decide) (by decide) (by omega) (by omega) (by decide)
  rw [own_v2_56, own_eq, own_i8 a1, own_i8 a2]; omega
theorem own_b3 {c : Int32} (h0 : 0 ≤ c.toInt) (h1 : c.toInt < 65536) : own_v2_56_2 c = (((224 : Int32) ||| (c >>> (12 : Int32))).toInt8.toInt32) := by
  have s := own_s12 c
  have a1 : ((224 : Int32) ||| (c >>> (12 : Int32))).toInt = 224 + c.toInt / 4096 := own_orI 5 (show (224 : Int32).toInt = 224 from rfl) s (by decide) (by decide) (by omega) (by omega) (by decide)
  have a2 : ((480 : Int32) ||| (c >>> (12 : Int32))).toInt = 480 + c.toInt / 4096 := own_orI 5 (show (480 : Int32).toInt = 480 from rfl) s (by decide) (by decide) (by omega) (by omega) (by decide)
  rw [own_v2_56_2, own_eq, own_i8 a1, own_i8 a2]; omega
theorem own_z (c : Int32) : c >>> (0 : Int32) = c := by
  rw [own_eq, own_shrI (k := 0) rfl (by decide)]; omega
theorem own_plain (p1 p2 p3 : Int32) : own_F0 p1 p2 p3 = 1 := by
  have a1 : (p1 &&& 2147483647).toInt = p1.toInt % 2147483648 := own_mk (k := 31) (by decide) (by decide)
  have a2 : (own_v0_7 p1).toInt = p1.toInt % 2147483648 % 1114112 := own_RI a1 (show (1114112 : Int32).toInt = 1114112 from rfl) (by omega)
  have h0 : 0 ≤ (own_v0_7 p1).toInt := by omega
  have e1 : (128 : Int32).toInt = 128 := rfl
  have e2 : (2048 : Int32).toInt = 2048 := rfl
  have e3 : (65536 : Int32).toInt = 65536 := rfl
  have e4 : (65535 : Int32).toInt = 65535 := rfl
  have hz : own_v2_90 (own_v0_7 p1) = own_v0_102 p1 := by rw [own_v2_90, own_z]; rfl
  rw [own_F0]
  by_cases c1 : own_v0_7 p1 < 128
  · rw [if_pos c1, if_pos (by rw [own_v0_243, own_F2, if_pos c1]), if_neg]
    rw [own_v0_259, own_F2_a2, if_pos c1]
    rw [show own_v0_59 p1 = (own_v0_7 p1).toInt8.toInt32 from rfl, own_refl]; decide
  · rw [if_neg c1]
    by_cases c2 : own_v0_7 p1 < 2048
    · have hb := own_b2 h0 (by rw [own_lt] at c2; omega)
      rw [if_pos c2, if_pos (by rw [own_v0_243, own_F2, if_neg c1, if_pos c2]), if_neg]
      rw [own_v0_259_1, own_F2_a2, if_neg c1, if_pos c2, hb, hz]
      rw [show own_v0_86 p1 = (((192 : Int32) ||| (own_v0_7 p1 >>> (6 : Int32))).toInt8.toInt32) from rfl, own_refl]; decide
    · rw [if_neg c2]
      by_cases c3 : own_v0_7 p1 < 65536
      · have hb := own_b3 h0 (by rw [own_lt] at c3; omega)
        have c4 : ¬ 65535 < own_v0_7 p1 := by rw [own_lt] at *; omega
        rw [if_pos c3, if_pos (by rw [own_v0_243, own_F2, if_neg c1, if_neg c2, if_neg c4]), if_neg]
        rw [own_v0_259_2, own_F2_a2, if_neg c1, if_neg c2, if_neg c4, hb, hz]
        rw [show own_v0_128 p1 = (((224 : Int32) ||| (own_v0_7 p1 >>> (12 : Int32))).toInt8.toInt32) from rfl, show own_v0_147 p1 = own_v2_90_2 (own_v0_7 p1) from rfl, own_refl]; decide
      · have c4 : 65535 < own_v0_7 p1 := by rw [own_lt] at *; omega
        rw [if_neg c3, if_pos (by rw [own_v0_243, own_F2, if_neg c1, if_neg c2, if_pos c4]), if_neg]
        rw [own_v0_259_3, own_F2_a2, if_neg c1, if_neg c2, if_pos c4, hz]
        rw [show own_v0_183 p1 = own_v2_56_1 (own_v0_7 p1) from rfl, show own_v0_202 p1 = own_v2_90_1 (own_v0_7 p1) from rfl, show own_v0_147 p1 = own_v2_90_2 (own_v0_7 p1) from rfl, own_refl]; decide
set_option maxRecDepth 65536 in
set_option maxHeartbeats 40000000 in
theorem own_comes {Post : Tables → Env → Array Value → State → Outcome → State → Prop} (hpost : ∀ tb e args s v u, (limb_1_1.after args s (.returned v) u = true ∧ limb_1_2.after args s (.returned v) u = true) → FrameEnd s (.returned v) u (Jvm.fieldLocs frame_1_writes args s ++ Jvm.arrayLocs frame_1_arrays args s ++ Jvm.staticLocs frame_1_statics s) 16 128 → Post tb e args s (.returned v) u) :
    ArmFor flags0 classFile x code maxLocals ret World_1 tables_1 room_1 Calls_1 rest_1 Pre_1 Post := by
  intro l hfl _ _ p e ha hc hk s m args below hf hA hF happ hP
  obtain ⟨hcalls, hrest, hpre⟩ := hP
  obtain ⟨-, -, -, hnamed, -, -, -, hat⟩ := (Spec.applies_iff hf).mp happ
  obtain ⟨hg, hn⟩ := and_e (Cond.before_iff.mp (show (Jvm.Cond.and given_1 narrow_1).before args s = true from hpre))
  obtain ⟨g1, g2⟩ := and_e hg
  obtain ⟨g3, g4⟩ := and_e g2
  obtain ⟨g5, g6⟩ := and_e g4
  obtain ⟨w0, w1, w2, rfl⟩ : ∃ w0 w1 w2 : Value, args = #[w0, w1, w2] := by
    have hs : args.size = 3 := by simpa [Cond.value, given_1] using g1
    obtain ⟨L⟩ := args
    match L, hs with
    | [w0, w1, w2], _ => exact ⟨w0, w1, w2, rfl⟩
  have hw := fun d (hd : d ∈ tables_1) => atoms_spec (ws := Jvm.Cond.code x code maxLocals ret :: tables_1) hat d (List.mem_cons_of_mem _ hd)
  obtain ⟨i0, ei0⟩ := is_v g3
  obtain rfl : w0 = (.int i0) := Option.some.inj ei0
  obtain ⟨i1, ei1⟩ := is_v g5
  obtain rfl : w1 = (.int i1) := Option.some.inj ei1
  obtain ⟨i2, ei2⟩ := is_v g6
  obtain rfl : w2 = (.int i2) := Option.some.inj ei2
  obtain ⟨n, o, h1, h2, h3, v, L, rfl, ⟨hq1, N, _⟩, hq⟩ := own_rm0 l s _ hw i0 i1 i2 s.heap s.heap.size (Nat.le_refl _)  tables_1 p e ha hc hk s m _ below hf ((Spec.applies_iff_loose hf).mp happ).1 ⟨rfl, State.Warmed39.refl s, rfl⟩ trivial
  obtain rfl : v = some (.int 1) := by rw [hq1, own_plain i0 i1 i2]
  exact ⟨n, _, h1, h2, h3, hpost _ _ _ _ _ _ ⟨Cond.after_iff.mpr rfl, Cond.after_iff.mpr (eq_i res_at (Term.int_eval (1)) rfl)⟩ ⟨hq.1, hq.2.1, (hq.2.2.sift fun y hy => Or.inr (N y hy)).mono (by decide) (by decide)⟩⟩
theorem main_1_1 : Claimed_1_1 := own_comes fun _ _ _ _ _ _ h hF => ⟨h.1, hF⟩
theorem main_1_2 : Claimed_1_2 := own_comes fun _ _ _ _ _ _ h hF => ⟨h.2, hF⟩
end Jvm.Pilot.@@N@@
namespace Jvm.Pilot.@@N@@
open Jvm Jvm.ClassFile Sem Op Lib Jvm.Free Jvm.Stand Jvm.Pilot.@@N@@.Jvm.D
/-! MADE BY PROGRAM (witnessworld.py) out of the Statement's table words and the real class files: 13 classes; the members and pool entries that the words name. The judged class is class 1, her method 1. -/
namespace start1
open Jvm.ClassFile
def u (s : String) : CpInfo := .utf8 (stringToUtf16 s)
/-- a pool by its gaps: so many unusable entries, then the entry; so many at the end -/
def gap : Nat → List CpInfo → List CpInfo
  | 0, r => r
  | n + 1, r => .unusable :: gap n r
def poolList (es : List (Nat × CpInfo)) (last : Nat) : List CpInfo := es.foldr (fun e r => gap e.1 (e.2 :: r)) (gap last [])
def pool (es : List (Nat × CpInfo)) (last : Nat) : Array CpInfo := ⟨poolList es last⟩
def fileOf (pool : Array CpInfo) (this : Nat) (attrs : Array Attribute := #[]) (ms : Array MethodInfo := #[]) (fl : Nat := 33) (sup : Nat := 0) (ifs : Array Nat := #[]) (fds : Array FieldInfo := #[]) : ClassFile where
  minorVersion := 0
  majorVersion := 65
  constantPool := pool
  accessFlags := fl
  thisClass := this
  superClass := sup
  interfaces := ifs
  fields := fds
  methods := ms
  attributes := attrs
def plain (name : String) (sup : Option ClassId) : Class where
  name := name
  kind := .ordinary
  loader := none
  accessFlags := 33
  super := sup
  interfaces := #[]
  cf := none
  fields := #[]
  methods := #[]
  instanceTypes := #[]
  staticTypes := #[]
  resolved := #[]
  callSites := []
  init := .initialized
  statics := none
  mirror := none

def pool0 : Array CpInfo := pool [(5, u "<init>"), (0, u "()V"), (1, .class_ 10), (1, u "java/lang/Object")] 113

def k0m0 : Method := { name := "<init>", desc := "()V", sig := { parameters := [], returnType := none }, accessFlags := 1, code := none }
/-- java/lang/Object -/
def k0 : Class := { plain "java/lang/Object" none with
  accessFlags := 33
  interfaces := #[]
  cf := some (fileOf pool0 8 #[] #[{ accessFlags := 1, nameIndex := 5, descriptorIndex := 6, attributes := #[] }] 33 0 #[] #[])
  fields := #[]
  methods := #[k0m0]
  instanceTypes := #[]
  staticTypes := #[]
  resolved := Array.replicate 124 none
  statics := none }

def pool1 : Array CpInfo := pool [(2, .class_ 4), (1, u "java/lang/Object"), (0, u "<init>"), (0, u "()V"), (0, .integer 2147483647), (0, .integer 1114112), (0, .methodref 10 11), (0, .class_ 12), (0, .nameAndType 13 14), (0, u "com/example/girolog/girolog/files/TextDecoderEncodePinLaw"), (0, u "fill8"), (0, u "([BB)V"), (0, .integer 65536), (0, .methodref 17 18), (0, .class_ 19), (0, .nameAndType 20 21), (0, u "com/example/girolog/girolog/files/TextDecoder"), (0, u "encode"), (0, u "(I[BI)I"), (0, .methodref 10 23), (0, .nameAndType 24 25), (0, u "same8"), (0, u "([B[B)Z"), (2, u "law"), (0, u "(III)Z")] 5

def k1m0 : Method := { name := "<init>", desc := "()V", sig := { parameters := [], returnType := none }, accessFlags := 1, code := none }
def k1c1 : Code := { maxStack := 5, maxLocals := 10, code := code, exceptionTable := #[], attributes := #[] }
def k1m1 : Method := { name := "law", desc := "(III)Z", sig := { parameters := [.int, .int, .int], returnType := some .boolean }, accessFlags := 9, code := some k1c1 }
def k1c2 : Code := { maxStack := 3, maxLocals := 2, code := method_3_code, exceptionTable := #[], attributes := #[] }
def k1m2 : Method := { name := "fill8", desc := "([BB)V", sig := { parameters := [(.array .byte), .byte], returnType := none }, accessFlags := 10, code := some k1c2 }
def k1c3 : Code := { maxStack := 3, maxLocals := 2, code := method_4_code, exceptionTable := #[], attributes := #[] }
def k1m3 : Method := { name := "same8", desc := "([B[B)Z", sig := { parameters := [(.array .byte), (.array .byte)], returnType := some .boolean }, accessFlags := 10, code := some k1c3 }
/-- com/example/girolog/girolog/files/TextDecoderEncodePinLaw -/
def k1 : Class := { plain "com/example/girolog/girolog/files/TextDecoderEncodePinLaw" (some 0) with
  accessFlags := 49
  interfaces := #[]
  cf := some (fileOf pool1 10 #[] #[{ accessFlags := 1, nameIndex := 5, descriptorIndex := 6, attributes := #[] }, { accessFlags := 9, nameIndex := 28, descriptorIndex := 29, attributes := #[] }, { accessFlags := 10, nameIndex := 13, descriptorIndex := 14, attributes := #[] }, { accessFlags := 10, nameIndex := 24, descriptorIndex := 25, attributes := #[] }] 49 2 #[] #[])
  fields := #[]
  methods := #[k1m0, k1m1, k1m2, k1m3]
  instanceTypes := #[]
  staticTypes := #[]
  resolved := Array.replicate 35 none
  statics := none }

def pool2 : Array CpInfo := pool [(1, .class_ 2), (0, u "java/lang/Readable"), (0, .class_ 4), (0, u "java/lang/Object")] 7

/-- java/lang/Readable -/
def k2 : Class := { plain "java/lang/Readable" (some 0) with
  accessFlags := 1537
  interfaces := #[]
  cf := some (fileOf pool2 1 #[] #[] 1537 3 #[] #[])
  fields := #[]
  methods := #[]
  instanceTypes := #[]
  staticTypes := #[]
  resolved := Array.replicate 12 none
  statics := none }

def pool3 : Array CpInfo := pool [(1, .class_ 2), (0, u "java/lang/AutoCloseable"), (0, .class_ 4), (0, u "java/lang/Object")] 7

/-- java/lang/AutoCloseable -/
def k3 : Class := { plain "java/lang/AutoCloseable" (some 0) with
  accessFlags := 1537
  interfaces := #[]
  cf := some (fileOf pool3 1 #[] #[] 1537 3 #[] #[])
  fields := #[]
  methods := #[]
  instanceTypes := #[]
  staticTypes := #[]
  resolved := Array.replicate 12 none
  statics := none }

def pool4 : Array CpInfo := pool [(1, .class_ 2), (0, u "java/io/Closeable"), (0, .class_ 4), (0, u "java/lang/Object"), (0, .class_ 6), (0, u "java/lang/AutoCloseable")] 7

/-- java/io/Closeable -/
def k4 : Class := { plain "java/io/Closeable" (some 0) with
  accessFlags := 1537
  interfaces := #[3]
  cf := some (fileOf pool4 1 #[] #[] 1537 3 #[5] #[])
  fields := #[]
  methods := #[]
  instanceTypes := #[]
  staticTypes := #[]
  resolved := Array.replicate 14 none
  statics := none }

def pool5 : Array CpInfo := pool [(1, .class_ 2), (0, u "java/io/Reader$1"), (2, u "<init>"), (0, u "()V"), (1, .class_ 9), (0, u "java/lang/Object"), (1, .class_ 13), (1, u "java/io/Reader"), (0, u "skipBuffer"), (0, u "[C"), (2, u "lock"), (0, u "Ljava/lang/Object;"), (117, .class_ 138), (0, u "java/lang/Readable"), (0, .class_ 140), (0, u "java/io/Closeable"), (0, u "TRANSFER_BUFFER_SIZE"), (0, u "I"), (2, u "maxSkipBufferSize")] 59

def k5m0 : Method := { name := "<init>", desc := "()V", sig := { parameters := [], returnType := none }, accessFlags := 4, code := none }
/-- java/io/Reader -/
def k5 : Class := { plain "java/io/Reader" (some 0) with
  accessFlags := 1057
  interfaces := #[2, 4]
  cf := some (fileOf pool5 11 #[.nestMembers #[1]] #[{ accessFlags := 4, nameIndex := 5, descriptorIndex := 6, attributes := #[] }] 1057 8 #[137, 139] #[{ accessFlags := 26, nameIndex := 141, descriptorIndex := 142, attributes := #[] }, { accessFlags := 4, nameIndex := 18, descriptorIndex := 19, attributes := #[] }, { accessFlags := 26, nameIndex := 145, descriptorIndex := 142, attributes := #[] }, { accessFlags := 2, nameIndex := 14, descriptorIndex := 15, attributes := #[] }])
  fields := #[{ name := "TRANSFER_BUFFER_SIZE", type := .int, accessFlags := 26, slot := 0, constantValue := 0 }, { name := "lock", type := (.object "java/lang/Object"), accessFlags := 4, slot := 0, constantValue := 0 }, { name := "maxSkipBufferSize", type := .int, accessFlags := 26, slot := 1, constantValue := 0 }, { name := "skipBuffer", type := (.array .char), accessFlags := 2, slot := 1, constantValue := 0 }]
  methods := #[k5m0]
  instanceTypes := #[(.object "java/lang/Object"), (.array .char)]
  staticTypes := #[.int, .int]
  resolved := Array.replicate 205 none
  statics := none }

def pool6 : Array CpInfo := pool [(2, .class_ 4), (1, u "java/io/Reader"), (2, .class_ 8), (0, u "com/example/girolog/girolog/files/TextDecoder"), (8, u "bytes"), (0, u "Ljava/nio/ByteBuffer;"), (2, u "lowSurrogate"), (0, u "I"), (2, u "in"), (0, u "Ljava/io/InputStream;"), (8, u "decoder"), (0, u "Ljava/nio/charset/CharsetDecoder;"), (12, u "utf8"), (0, u "Z"), (2, u "ASCII_COMPATIBLE"), (0, u "Ljava/util/Set;"), (7, u "asciiCompatible"), (2, u "lenient"), (7, u "chars"), (0, u "Ljava/nio/CharBuffer;"), (83, u "text"), (0, u "[B"), (2, u "textPosition"), (2, u "textLimit"), (5, .integer 65535), (20, u "endOfBytes"), (17, u "undecodable"), (3, u "encode"), (0, u "(I[BI)I"), (28, u "Lcom/example/girolog/girolog/files/UndecodableBytesException;"), (2, u "decodedAll"), (90, u "CHUNK"), (2, u "MAX_SEQUENCE")] 34

def k6c0 : Code := { maxStack := 7, maxLocals := 5, code := prog_77_method_12_code, exceptionTable := #[], attributes := #[] }
def k6m0 : Method := { name := "encode", desc := "(I[BI)I", sig := { parameters := [.int, (.array .byte), .int], returnType := some .int }, accessFlags := 9, code := some k6c0 }
/-- com/example/girolog/girolog/files/TextDecoder -/
def k6 : Class := { plain "com/example/girolog/girolog/files/TextDecoder" (some 5) with
  accessFlags := 49
  interfaces := #[]
  cf := some (fileOf pool6 7 #[] #[{ accessFlags := 9, nameIndex := 214, descriptorIndex := 215, attributes := #[] }] 49 2 #[] #[{ accessFlags := 25, nameIndex := 338, descriptorIndex := 22, attributes := #[] }, { accessFlags := 25, nameIndex := 341, descriptorIndex := 22, attributes := #[] }, { accessFlags := 26, nameIndex := 53, descriptorIndex := 54, attributes := #[] }, { accessFlags := 18, nameIndex := 25, descriptorIndex := 26, attributes := #[] }, { accessFlags := 18, nameIndex := 17, descriptorIndex := 18, attributes := #[] }, { accessFlags := 18, nameIndex := 35, descriptorIndex := 36, attributes := #[] }, { accessFlags := 18, nameIndex := 49, descriptorIndex := 50, attributes := #[] }, { accessFlags := 18, nameIndex := 62, descriptorIndex := 50, attributes := #[] }, { accessFlags := 18, nameIndex := 65, descriptorIndex := 50, attributes := #[] }, { accessFlags := 2, nameIndex := 192, descriptorIndex := 50, attributes := #[] }, { accessFlags := 18, nameIndex := 73, descriptorIndex := 74, attributes := #[] }, { accessFlags := 2, nameIndex := 247, descriptorIndex := 50, attributes := #[] }, { accessFlags := 2, nameIndex := 210, descriptorIndex := 244, attributes := #[] }, { accessFlags := 2, nameIndex := 158, descriptorIndex := 159, attributes := #[] }, { accessFlags := 2, nameIndex := 162, descriptorIndex := 22, attributes := #[] }, { accessFlags := 2, nameIndex := 165, descriptorIndex := 22, attributes := #[] }, { accessFlags := 2, nameIndex := 21, descriptorIndex := 22, attributes := #[] }])
  fields := #[{ name := "CHUNK", type := .int, accessFlags := 25, slot := 0, constantValue := 0 }, { name := "MAX_SEQUENCE", type := .int, accessFlags := 25, slot := 1, constantValue := 0 }, { name := "ASCII_COMPATIBLE", type := (.object "java/util/Set"), accessFlags := 26, slot := 2, constantValue := 0 }, { name := "in", type := (.object "java/io/InputStream"), accessFlags := 18, slot := 2, constantValue := 0 }, { name := "bytes", type := (.object "java/nio/ByteBuffer"), accessFlags := 18, slot := 3, constantValue := 0 }, { name := "decoder", type := (.object "java/nio/charset/CharsetDecoder"), accessFlags := 18, slot := 4, constantValue := 0 }, { name := "utf8", type := .boolean, accessFlags := 18, slot := 5, constantValue := 0 }, { name := "asciiCompatible", type := .boolean, accessFlags := 18, slot := 6, constantValue := 0 }, { name := "lenient", type := .boolean, accessFlags := 18, slot := 7, constantValue := 0 }, { name := "endOfBytes", type := .boolean, accessFlags := 2, slot := 8, constantValue := 0 }, { name := "chars", type := (.object "java/nio/CharBuffer"), accessFlags := 18, slot := 9, constantValue := 0 }, { name := "decodedAll", type := .boolean, accessFlags := 2, slot := 10, constantValue := 0 }, { name := "undecodable", type := (.object "com/example/girolog/girolog/files/UndecodableBytesException"), accessFlags := 2, slot := 11, constantValue := 0 }, { name := "text", type := (.array .byte), accessFlags := 2, slot := 12, constantValue := 0 }, { name := "textPosition", type := .int, accessFlags := 2, slot := 13, constantValue := 0 }, { name := "textLimit", type := .int, accessFlags := 2, slot := 14, constantValue := 0 }, { name := "lowSurrogate", type := .int, accessFlags := 2, slot := 15, constantValue := 0 }]
  methods := #[k6m0]
  instanceTypes := #[(.object "java/lang/Object"), (.array .char), (.object "java/io/InputStream"), (.object "java/nio/ByteBuffer"), (.object "java/nio/charset/CharsetDecoder"), .boolean, .boolean, .boolean, .boolean, (.object "java/nio/CharBuffer"), .boolean, (.object "com/example/girolog/girolog/files/UndecodableBytesException"), (.array .byte), .int, .int, .int]
  staticTypes := #[.int, .int, (.object "java/util/Set")]
  resolved := Array.replicate 376 none
  statics := none }

def pool7 : Array CpInfo := pool [(1, u "java/lang/Cloneable"), (0, .class_ 1), (0, u "java/lang/Object"), (0, .class_ 3)] 3

/-- java/lang/Cloneable -/
def k7 : Class := { plain "java/lang/Cloneable" (some 0) with
  accessFlags := 1537
  interfaces := #[]
  cf := some (fileOf pool7 2 #[] #[] 1537 4 #[] #[])
  fields := #[]
  methods := #[]
  instanceTypes := #[]
  staticTypes := #[]
  resolved := Array.replicate 8 none
  statics := none }

def pool8 : Array CpInfo := pool [(1, u "java/io/Serializable"), (0, .class_ 1), (0, u "java/lang/Object"), (0, .class_ 3)] 3

/-- java/io/Serializable -/
def k8 : Class := { plain "java/io/Serializable" (some 0) with
  accessFlags := 1537
  interfaces := #[]
  cf := some (fileOf pool8 2 #[] #[] 1537 4 #[] #[])
  fields := #[]
  methods := #[]
  instanceTypes := #[]
  staticTypes := #[]
  resolved := Array.replicate 8 none
  statics := none }

/-- the primitive byte -/
def k9 : Class := { plain "byte" none with kind := .primitive 'B', accessFlags := 0x411 }
/-- [B -/
def k10 : Class := { plain "[B" (some 0) with kind := .array 9 .byte, interfaces := #[7, 8], accessFlags := 1041 }

/-- the primitive int -/
def k11 : Class := { plain "int" none with kind := .primitive 'I', accessFlags := 0x411 }
/-- [I -/
def k12 : Class := { plain "[I" (some 0) with kind := .array 11 .int, interfaces := #[7, 8], accessFlags := 1041 }

def heap : Heap := #[]
def classes : Array Class := #[k0, k1, k2, k3, k4, k5, k6, k7, k8, k9, k10, k11, k12]
def interned : List (Array UInt16 × Addr) := []
def slotsUsed : Nat := 0
def theMethod : MethodId := ⟨1, 1⟩
def args0 : Array Value := #[.int 500, .int 1, .int 5]
def aboutOver (below : List Frame) : State where
  vm := { classes := classes, interned := interned.toArray }
  heap := heap
  slotsUsed := slotsUsed
  threads := #[{ frames := .invoking theMethod args0 :: below }]
def below0 : List Frame := [.native { method := ⟨0, 0⟩, args := #[] }]
def about1 : State := aboutOver below0
def p0 : Program := .bare "" "" ""
def e0 : Env := launch0.env 0 0 0
theorem w_frames : about1.frames = Frame.invoking theMethod args0 :: below0 := rfl
set_option maxRecDepth 65536 in
theorem w_args : argsFit about1.vm theMethod args0 = true := by decide +kernel
set_option maxRecDepth 65536 in
theorem w_heap : heapFits about1 = true := by decide +kernel
set_option maxRecDepth 65536 in
theorem w_runnable : about1.curStatus? = some .runnable := by decide +kernel
set_option maxRecDepth 65536 in
theorem w_alone : about1.alone = true := by decide +kernel
set_option maxRecDepth 65536 in
theorem w_named : about1.methodNamed? x = some theMethod := by decide +kernel
set_option maxRecDepth 65536 in
theorem w_hears : about1.hears theMethod below0 = true := by decide +kernel
set_option maxRecDepth 65536 in
theorem w_ripe : about1.ripe theMethod args0 below0 = true := by decide +kernel
theorem w_running : about1.status = .running := rfl
set_option maxRecDepth 65536 in
theorem w_room : about1.hasRoom e0.platform room_1 = true :=
  launch0.hasRoom_least _ room_1 (by decide +kernel) (by decide +kernel) (by decide +kernel) (by decide +kernel) (by decide +kernel) (by decide +kernel)
theorem allAtoms_all (ts : List Jvm.Cond) (a : Array Jvm.Value) (st : Jvm.State) : (allAtoms ts).before a st = ts.all (fun c => c.before a st) := by
  induction ts with
  | nil => rfl
  | cons c t ih =>
    show (Jvm.Cond.and c (allAtoms t)).before a st = _
    rw [Jvm.Cond.before_and, ih, List.all_cons]
def words1 : List Jvm.Cond := Jvm.Cond.code x code maxLocals ret :: tables_1
/-- a 'code' word, met by the world's own term for the bytes: nothing is compared byte by byte -/
theorem code_word {y : MethodName} {bytes : ByteArray} {mx : Nat} {rt : Option FieldType} {a : Array Value} {s : State} {m : MethodId} {meth : Method} {c : Code} (h1 : s.methodNamed? y = some m) (h2 : s.vm.method? m = some meth) (h3 : meth.code = some c) (h4 : c.code = bytes)
    (h5 : (c.maxLocals == mx && c.exceptionTable.isEmpty && decide (c.maxStack ≤ mostOperands) && decide (meth.sig.returnType = rt) && !meth.locks && decide (parseMethodDescriptor y.desc = some meth.sig)) = true) : (Jvm.Cond.code y bytes mx rt).before a s = true := by
  simp only [Bool.and_eq_true, beq_iff_eq, Bool.not_eq_true', decide_eq_true_eq] at h5
  obtain ⟨⟨⟨⟨⟨g1, g2⟩, g3⟩, g4⟩, g5⟩, g6⟩ := h5
  simp [Cond.before, Cond.holds, Cond.value, h1, h2, h3, h4, g1, g2, g3, g4, g5, g6]
def isCode : Jvm.Cond → Bool
  | .code _ _ _ _ => true
  | _ => false
theorem all_split {L : List Jvm.Cond} {P : Jvm.Cond → Bool} (h1 : L.all (fun c => isCode c || P c) = true) (h2 : ∀ c ∈ L.filter isCode, P c = true) : L.all P = true := by
  refine List.all_eq_true.mpr fun c hc => ?_
  have h := List.all_eq_true.mp h1 c hc
  rcases Bool.eq_false_or_eq_true (isCode c) with hi | hi
  · exact h2 c (List.mem_filter.mpr ⟨hc, hi⟩)
  · simpa [hi] using h
set_option maxRecDepth 65536 in
theorem w_c0 : (Jvm.Cond.code x code maxLocals ret).before args0 about1 = true := code_word (m := ⟨1, 1⟩) (meth := k1m1) (c := k1c1) (by decide +kernel) rfl rfl rfl (by decide +kernel)
set_option maxRecDepth 65536 in
theorem w_c1 : (Jvm.Cond.code ({ cls := "com/example/girolog/girolog/files/TextDecoderEncodePinLaw", name := "fill8", desc := "([BB)V" } : Jvm.MethodName) method_3_code (2 : Nat) (Option.none : Option Jvm.ClassFile.FieldType)).before args0 about1 = true := code_word (m := ⟨1, 2⟩) (meth := k1m2) (c := k1c2) (by decide +kernel) rfl rfl rfl (by decide +kernel)
set_option maxRecDepth 65536 in
theorem w_c2 : (Jvm.Cond.code ({ cls := "com/example/girolog/girolog/files/TextDecoder", name := "encode", desc := "(I[BI)I" } : Jvm.MethodName) prog_77_method_12_code (5 : Nat) (Option.some Jvm.ClassFile.FieldType.int)).before args0 about1 = true := code_word (m := ⟨6, 0⟩) (meth := k6m0) (c := k6c0) (by decide +kernel) rfl rfl rfl (by decide +kernel)
set_option maxRecDepth 65536 in
theorem w_c3 : (Jvm.Cond.code ({ cls := "com/example/girolog/girolog/files/TextDecoderEncodePinLaw", name := "same8", desc := "([B[B)Z" } : Jvm.MethodName) method_4_code (2 : Nat) (Option.some Jvm.ClassFile.FieldType.boolean)).before args0 about1 = true := code_word (m := ⟨1, 3⟩) (meth := k1m3) (c := k1c3) (by decide +kernel) rfl rfl rfl (by decide +kernel)
def codes1 : List Jvm.Cond := [Jvm.Cond.code x code maxLocals ret, Jvm.Cond.code ({ cls := "com/example/girolog/girolog/files/TextDecoderEncodePinLaw", name := "fill8", desc := "([BB)V" } : Jvm.MethodName) method_3_code (2 : Nat) (Option.none : Option Jvm.ClassFile.FieldType), Jvm.Cond.code ({ cls := "com/example/girolog/girolog/files/TextDecoder", name := "encode", desc := "(I[BI)I" } : Jvm.MethodName) prog_77_method_12_code (5 : Nat) (Option.some Jvm.ClassFile.FieldType.int), Jvm.Cond.code ({ cls := "com/example/girolog/girolog/files/TextDecoderEncodePinLaw", name := "same8", desc := "([B[B)Z" } : Jvm.MethodName) method_4_code (2 : Nat) (Option.some Jvm.ClassFile.FieldType.boolean)]
set_option maxRecDepth 65536 in
theorem codes_eq : words1.filter isCode = codes1 := rfl
theorem w_codes : ∀ c ∈ words1.filter isCode, c.before args0 about1 = true := by
  rw [codes_eq]
  intro c hc
  simp only [codes1, List.mem_cons, List.not_mem_nil, or_false] at hc
  rcases hc with rfl | rfl | rfl | rfl
  · exact w_c0
  · exact w_c1
  · exact w_c2
  · exact w_c3
set_option maxRecDepth 65536 in
theorem w_t1 : words1.all (fun c => isCode c || c.before args0 about1) = true := by decide +kernel
theorem w_tables : (allAtoms (Jvm.Cond.code x code maxLocals ret :: tables_1)).before args0 about1 = true := by
  rw [allAtoms_all]
  show words1.all (fun c => c.before args0 about1) = true
  refine all_split ?_ w_codes
  rw [w_t1]
set_option maxRecDepth 65536 in
theorem w_case : (Jvm.Cond.and given_1 narrow_1).before args0 about1 = true := by decide +kernel
theorem w_applies : (headSpec (Jvm.Cond.code x code maxLocals ret :: tables_1) room_1).applies x e0.platform about1 = true :=
  (Spec.applies_iff w_frames).mpr ⟨w_running, w_runnable, w_alone, w_named, w_hears, w_ripe, w_room, w_tables⟩
theorem atStart : AtStart classFile x code maxLocals ret World_1 tables_1 room_1 Calls_1 rest_1 Pre_1 launch0 p0 e0 about1 theMethod args0 below0 :=
  ⟨lists_1, trivial, launch0.admits_env _ _ _, launch0.least_env, fairChoices_fair.cas, fairChoices_fair.clock, w_frames, w_args, w_heap, w_applies, trivial, trivial, w_case⟩
end start1
theorem witness_1 : WitnessClaimed_1 := ⟨start1.p0, start1.e0, start1.about1, start1.theMethod, start1.args0, start1.below0, start1.atStart⟩
end Jvm.Pilot.@@N@@

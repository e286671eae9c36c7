import JvmDerived
import JvmDerived.Pilot.@@N@@Statement
import JvmDerived.Pilot.@@N@@Code
set_option linter.unusedVariables false
set_option linter.unusedSimpArgs false
namespace Jvm.Pilot.@@N@@
open Jvm Jvm.ClassFile Sem Op Lib Jvm.Free Jvm.Stand Jvm.LawKit Jvm.RoadKit Bundle Jvm.Pilot.@@N@@.Jvm.D
/-! OWN KIT: the walk's steps in one form: 'own_A' where the run stands, 'own_E' that it ends as G says. -/
def own_E (p : Program) (e : Env) (below : List Frame) (G : Outcome → State → Prop) (A : State) : Prop := ∃ s₂ o, Steps p.tables e below A s₂ ∧ s₂.status = .running ∧ Ended s₂ below o ∧ G o s₂
def own_A (l : Launch) (Z : State) (own : String) (cb : ByteArray) (ml n0 : Nat) (p : Program) (e : Env) (R : Room) (s : State) (m : MethodId) (args : Array Value) (below : List Frame) (meth : Method) (c : Code) (T : State) (h : Heap) (locs : List Loc) (cells slots : Nat) : Prop :=
  Stand p l e R s m args below meth c T locs cells slots ∧ p.tables.exec = Jvm.exec ∧ Z.Warmed39 s.vm ∧ c.code = cb ∧ c.maxLocals = ml ∧ s.vm.findClass own = some m.cls ∧ T.heap = h ∧ Fr n0 locs ∧ n0 ≤ h.size ∧ meth.locks = false
def own_G (R : Room) (s : State) (n0 : Nat) (Q : Option Value → Heap → Prop) (o : Outcome) (U : State) : Prop := ∃ v L, o = .returned v ∧ (Q v U.heap ∧ Fr n0 L ∧ n0 ≤ U.heap.size) ∧ FrameEnd s o U L R.cells R.slots
def own_Con (l : Launch) (Z : State) (y : MethodName) (cb : ByteArray) (ml : Nat) (ret : Option FieldType) (rm : Room) (as' : Array Value) (h0 : Heap) (n0 : Nat) (Q : Option Value → Heap → Prop) : Prop :=
  ∀ ws, MetFree l y (head1 (Jvm.Cond.code y cb ml ret :: ws) rm) (fun a U => a = as' ∧ Z.Warmed39 U.vm ∧ U.heap = h0) (fun _ _ _ _ _ => True) (fun _ U o U' => ∃ v L, o = .returned v ∧ (Q v U'.heap ∧ Fr n0 L ∧ n0 ≤ U'.heap.size) ∧ FrameEnd U o U' L rm.cells rm.slots)
theorem own_b255 (x : Int32) : x &&& 255 = x.toInt8.toInt32 &&& 255 := by
  apply Int32.toBitVec_inj.mp
  rw [Int32.toBitVec_and, Int32.toBitVec_and]
  show x.toBitVec &&& (BitVec.ofNat 32 255) = (x.toBitVec.signExtend 8).signExtend 32 &&& (BitVec.ofNat 32 255)
  apply BitVec.eq_of_getLsbD_eq
  intro i hi
  rw [BitVec.getLsbD_and, BitVec.getLsbD_and, BitVec.getLsbD_signExtend, BitVec.getLsbD_signExtend]
  by_cases h : i < 8
  · simp [h, hi]
  · have : ((BitVec.ofNat 32 255)).getLsbD i = false := by
      have h2 : 8 ≤ i := by omega
      have : ((BitVec.ofNat 32 255)).getLsbD i = Nat.testBit 255 i := by simp [BitVec.getLsbD]
      rw [this]; exact Nat.testBit_lt_two_pow (Nat.lt_of_lt_of_le (by decide : 255 < 2^8) (Nat.pow_le_pow_right (by decide) h2))
    simp [this]
theorem own_lremE (x y : Int64) : x - (x / y) * y = x % y := by
  apply Int64.toInt_inj.mp
  have h1 := Int64.le_toInt (x % y)
  have h2 := Int64.toInt_lt (x % y)
  rw [Int64.toInt_sub, Int64.toInt_mul, Int64.toInt_div, Int.bmod_mul_bmod, Int.sub_bmod_bmod, Int.mul_comm (x.toInt.tdiv y.toInt), ← Int.tmod_def, ← Int64.toInt_mod]
  exact Int.bmod_eq_of_le_mul_two (by omega) (by omega)
theorem own_addc (x a b c : Int32) (h : a + b = c) : (x + a) + b = x + c := by rw [Int32.add_assoc, h]
theorem own_nb (t : Int32) : nar .byte (t.toInt8.toInt32) = t.toInt8.toInt32 := by
  show (t.toInt8.toInt32).toInt8.toInt32 = t.toInt8.toInt32
  simp
section OwnKit
variable {l : Launch} {Z : State} {a0 : Array Value} {own : String} {cb : ByteArray} {ml n0 : Nat} {p : Program} {e : Env} {R : Room} {s : State} {m : MethodId} {args : Array Value} {below : List Frame} {meth : Method} {c : Code} {T : State} {h h' : Heap} {locs : List Loc} {cells slots : Nat} {G : Outcome → State → Prop} {pc pc' : Nat} {Ls Ls' : Array Slot} {S : List Value}
theorem own_go {A B : State} (h : ∀ t, Steps p.tables e below B t → Steps p.tables e below A t) (k : own_E p e below G B) : own_E p e below G A := by
  obtain ⟨s₂, o, h1, r⟩ := k; exact ⟨s₂, o, h _ h1, r⟩
theorem own_enter {y : MethodName} {ret : Option FieldType} {as' : Array Value} {h0 : Heap} {Q : Option Value → Heap → Prop} (hpl : plainFor y = true) (hsz : n0 ≤ h0.size) (hef : ∀ m, entryFrame m as' ml = mkF m 0 Ls [])
    (k : ∀ p e s m below meth c T, own_A l Z y.cls cb ml n0 p e R s m as' below meth c T h0 [] 0 0 → meth.sig.returnType = ret → meth.name = y.name → own_E p e below (own_G R s n0 Q) (T.setTop (mkF m 0 Ls []))) : own_Con l Z y cb ml ret R as' h0 n0 Q := by
  intro ws
  refine MetFree.of_bodySF hpl hisR ?_
  intro p e s m args below meth c s₁ Bd hml0 hP hK
  obtain ⟨rfl, hZ, hh⟩ := hP
  have e0 : s₁.heap = h0 := by rw [← hh, Bd.state]; rfl
  have K := k p e s m below meth c s₁ ⟨Stand.of_body Bd, Bd.exec, hZ, Bd.bytes, hml0, findClass_of_methodNamed Bd.named, e0, Fr.nil n0, hsz, Bd.notSynchronized⟩ Bd.returns (name_of_methodNamed Bd.named Bd.method).1
  obtain ⟨s₂, o, h1, h2, h3, h4⟩ := K
  exact ⟨s₂, o, castTop (hef m) h1, h2, h3, h4⟩
theorem own_iret (X : own_A l Z own cb ml n0 p e R s m args below meth c T h locs cells slots) {t : FieldType} {z w : Int32} {Q : Option Value → Heap → Prop} (hr : meth.sig.returnType = some t) (ht : t = .int ∨ t = .boolean ∨ t = .byte ∨ t = .char ∨ t = .short) (hd : decode cb pc = .ok (.ireturn, 1)) (hz : nar t z = w) (hc : cells ≤ R.cells) (hs : slots ≤ R.slots) (hQ : Q (some (.int w)) h) :
    own_E p e below (own_G R s n0 Q) (T.setTop (mkF m pc Ls (.int z :: S))) := by
  obtain ⟨X, hx, hZ, hby, hml, hown, rfl, N, hsz, hlk⟩ := X
  subst hz
  obtain ⟨fs, hl, hrun, hended, hW, hsame⟩ := X.leave (v := some (.int (nar t z))) (fun q => by rw [hr] at q; cases q) hlk
  refine ⟨_, _, ?_, hrun, hended, _, locs, rfl, ⟨hQ, N, hsz⟩, ⟨_, rfl⟩, hW, hsame.mono hc hs⟩
  rcases ht with rfl | ht
  · exact retOut X hx hr rfl (Or.inl ⟨rfl, Or.inl rfl, z, rfl⟩) (hb hby hd) hl
  · exact retN X hx hr ht (hb hby hd) hl
theorem own_lret (X : own_A l Z own cb ml n0 p e R s m args below meth c T h locs cells slots) {z : Int64} {Q : Option Value → Heap → Prop} (hr : meth.sig.returnType = some .long) (hd : decode cb pc = .ok (.lreturn, 1)) (hc : cells ≤ R.cells) (hs : slots ≤ R.slots) (hQ : Q (some (.long z)) h) :
    own_E p e below (own_G R s n0 Q) (T.setTop (mkF m pc Ls (.long z :: S))) := by
  obtain ⟨X, hx, hZ, hby, hml, hown, rfl, N, hsz, hlk⟩ := X
  obtain ⟨fs, hl, hrun, hended, hW, hsame⟩ := X.leave (v := some (.long z)) (fun q => by rw [hr] at q; cases q) hlk
  exact ⟨_, _, retOut X hx hr rfl (Or.inr (Or.inl ⟨rfl, rfl, z, rfl⟩)) (hb hby hd) hl, hrun, hended, _, locs, rfl, ⟨hQ, N, hsz⟩, ⟨_, rfl⟩, hW, hsame.mono hc hs⟩
theorem own_aret (X : own_A l Z own cb ml n0 p e R s m args below meth c T h locs cells slots) {t : FieldType} {v : Value} {Q : Option Value → Heap → Prop} (hr : meth.sig.returnType = some t) (ht : t.isReference = true) (hv : v.isRef = true) (hn : narrow t v = v) (hd : decode cb pc = .ok (.areturn, 1)) (hc : cells ≤ R.cells) (hs : slots ≤ R.slots) (hQ : Q (some v) h) :
    own_E p e below (own_G R s n0 Q) (T.setTop (mkF m pc Ls (v :: S))) := by
  obtain ⟨X, hx, hZ, hby, hml, hown, rfl, N, hsz, hlk⟩ := X
  obtain ⟨fs, hl, hrun, hended, hW, hsame⟩ := X.leave (v := some v) (fun q => by rw [hr] at q; cases q) hlk
  exact ⟨_, _, retOut X hx hr hn (Or.inr (Or.inr (Or.inr (Or.inr ⟨rfl, ht, hv⟩)))) (hb hby hd) hl, hrun, hended, _, locs, rfl, ⟨hQ, N, hsz⟩, ⟨_, rfl⟩, hW, hsame.mono hc hs⟩
theorem own_vret (X : own_A l Z own cb ml n0 p e R s m args below meth c T h locs cells slots) {Q : Option Value → Heap → Prop} (hr : meth.sig.returnType = none) (hd : decode cb pc = .ok (.return_, 1)) (hc : cells ≤ R.cells) (hs : slots ≤ R.slots) (hQ : Q none h) :
    own_E p e below (own_G R s n0 Q) (T.setTop (mkF m pc Ls [])) := by
  obtain ⟨X, hx, hZ, hby, hml, hown, rfl, N, hsz, hlk⟩ := X
  obtain ⟨fs, hl, hrun, hended, hW, hsame⟩ := X.leave (v := none) (fun _ => rfl) hlk
  exact ⟨_, _, X.returnOut hx hr (hb hby hd) hl, hrun, hended, _, locs, rfl, ⟨hQ, N, hsz⟩, ⟨_, rfl⟩, hW, hsame.mono hc hs⟩
theorem own_iloadN (X : own_A l Z own cb ml n0 p e R s m args below meth c T h locs cells slots) {i : Fin 4} {v : Int32} (hd : decode cb pc = .ok (.iload_n i, 1)) (hp : pc + 1 = pc') (hl : Ls[i.val]? = some (.val (.int v))) (k : own_E p e below G (T.setTop (mkF m pc' Ls (.int v :: S)))) : own_E p e below G (T.setTop (mkF m pc Ls S)) := by
  subst hp; exact own_go (fun _ => XS.iloadN X.1.here X.2.1 rfl (hb X.2.2.2.1 hd) hl) k
theorem own_iload (X : own_A l Z own cb ml n0 p e R s m args below meth c T h locs cells slots) {i : Nat} {v : Int32} (hd : decode cb pc = .ok (.iload i, 2)) (hp : pc + 2 = pc') (hl : Ls[i]? = some (.val (.int v))) (k : own_E p e below G (T.setTop (mkF m pc' Ls (.int v :: S)))) : own_E p e below G (T.setTop (mkF m pc Ls S)) := by
  subst hp; exact own_go (fun _ => XS.iload X.1.here X.2.1 rfl (hb X.2.2.2.1 hd) hl) k
theorem own_istoreN (X : own_A l Z own cb ml n0 p e R s m args below meth c T h locs cells slots) {i : Fin 4} {x y : Int32} (hd : decode cb pc = .ok (.istore_n i, 1)) (hp : pc + 1 = pc') (hv : x = y) (hl : storeLocals Ls i.val (.int y) = some Ls') (k : own_E p e below G (T.setTop (mkF m pc' Ls' S))) : own_E p e below G (T.setTop (mkF m pc Ls (.int x :: S))) := by
  subst hp; subst hv; exact own_go (fun _ => XS.istoreN X.1.here X.2.1 rfl (hb X.2.2.2.1 hd) rfl hl) k
theorem own_istore (X : own_A l Z own cb ml n0 p e R s m args below meth c T h locs cells slots) {i : Nat} {x y : Int32} (hd : decode cb pc = .ok (.istore i, 2)) (hp : pc + 2 = pc') (hv : x = y) (hl : storeLocals Ls i (.int y) = some Ls') (k : own_E p e below G (T.setTop (mkF m pc' Ls' S))) : own_E p e below G (T.setTop (mkF m pc Ls (.int x :: S))) := by
  subst hp; subst hv; exact own_go (fun _ => XS.istore X.1.here X.2.1 rfl (hb X.2.2.2.1 hd) rfl hl) k
theorem own_lloadN (X : own_A l Z own cb ml n0 p e R s m args below meth c T h locs cells slots) {i : Fin 4} {v : Int64} (hd : decode cb pc = .ok (.lload_n i, 1)) (hp : pc + 1 = pc') (hl : Ls[i.val]? = some (.val (.long v))) (k : own_E p e below G (T.setTop (mkF m pc' Ls (.long v :: S)))) : own_E p e below G (T.setTop (mkF m pc Ls S)) := by
  subst hp; exact own_go (fun _ => XS.lloadN X.1.here X.2.1 rfl (hb X.2.2.2.1 hd) hl) k
theorem own_lload (X : own_A l Z own cb ml n0 p e R s m args below meth c T h locs cells slots) {i : Nat} {v : Int64} (hd : decode cb pc = .ok (.lload i, 2)) (hp : pc + 2 = pc') (hl : Ls[i]? = some (.val (.long v))) (k : own_E p e below G (T.setTop (mkF m pc' Ls (.long v :: S)))) : own_E p e below G (T.setTop (mkF m pc Ls S)) := by
  subst hp; exact own_go (fun _ => XS.lload X.1.here X.2.1 rfl (hb X.2.2.2.1 hd) hl) k
theorem own_lstoreN (X : own_A l Z own cb ml n0 p e R s m args below meth c T h locs cells slots) {i : Fin 4} {x y : Int64} (hd : decode cb pc = .ok (.lstore_n i, 1)) (hp : pc + 1 = pc') (hv : x = y) (hl : storeLocals Ls i.val (.long y) = some Ls') (k : own_E p e below G (T.setTop (mkF m pc' Ls' S))) : own_E p e below G (T.setTop (mkF m pc Ls (.long x :: S))) := by
  subst hp; subst hv; exact own_go (fun _ => XS.lstoreN X.1.here X.2.1 rfl (hb X.2.2.2.1 hd) rfl hl) k
theorem own_lstore (X : own_A l Z own cb ml n0 p e R s m args below meth c T h locs cells slots) {i : Nat} {x y : Int64} (hd : decode cb pc = .ok (.lstore i, 2)) (hp : pc + 2 = pc') (hv : x = y) (hl : storeLocals Ls i (.long y) = some Ls') (k : own_E p e below G (T.setTop (mkF m pc' Ls' S))) : own_E p e below G (T.setTop (mkF m pc Ls (.long x :: S))) := by
  subst hp; subst hv; exact own_go (fun _ => XS.lstore X.1.here X.2.1 rfl (hb X.2.2.2.1 hd) rfl hl) k
theorem own_aloadN (X : own_A l Z own cb ml n0 p e R s m args below meth c T h locs cells slots) {i : Fin 4} {v : Value} (hd : decode cb pc = .ok (.aload_n i, 1)) (hp : pc + 1 = pc') (hl : Ls[i.val]? = some (.val v)) (hr : v.isRef = true) (k : own_E p e below G (T.setTop (mkF m pc' Ls (v :: S)))) : own_E p e below G (T.setTop (mkF m pc Ls S)) := by
  subst hp; exact own_go (fun _ => XS.aloadN X.1.here X.2.1 rfl (hb X.2.2.2.1 hd) hl hr) k
theorem own_aload (X : own_A l Z own cb ml n0 p e R s m args below meth c T h locs cells slots) {i : Nat} {v : Value} (hd : decode cb pc = .ok (.aload i, 2)) (hp : pc + 2 = pc') (hl : Ls[i]? = some (.val v)) (hr : v.isRef = true) (k : own_E p e below G (T.setTop (mkF m pc' Ls (v :: S)))) : own_E p e below G (T.setTop (mkF m pc Ls S)) := by
  subst hp; exact own_go (fun _ => XS.aload X.1.here X.2.1 rfl (hb X.2.2.2.1 hd) hl hr) k
theorem own_astoreN (X : own_A l Z own cb ml n0 p e R s m args below meth c T h locs cells slots) {i : Fin 4} {v : Value} (hd : decode cb pc = .ok (.astore_n i, 1)) (hp : pc + 1 = pc') (hr : v.isRef = true) (hl : storeLocals Ls i.val v = some Ls') (k : own_E p e below G (T.setTop (mkF m pc' Ls' S))) : own_E p e below G (T.setTop (mkF m pc Ls (v :: S))) := by
  subst hp; exact own_go (fun _ => XS.astoreN X.1.here X.2.1 rfl (hb X.2.2.2.1 hd) rfl hr hl) k
theorem own_astore (X : own_A l Z own cb ml n0 p e R s m args below meth c T h locs cells slots) {i : Nat} {v : Value} (hd : decode cb pc = .ok (.astore i, 2)) (hp : pc + 2 = pc') (hr : v.isRef = true) (hl : storeLocals Ls i v = some Ls') (k : own_E p e below G (T.setTop (mkF m pc' Ls' S))) : own_E p e below G (T.setTop (mkF m pc Ls (v :: S))) := by
  subst hp; exact own_go (fun _ => XS.astore X.1.here X.2.1 rfl (hb X.2.2.2.1 hd) rfl hr hl) k
theorem own_iconst (X : own_A l Z own cb ml n0 p e R s m args below meth c T h locs cells slots) {i : Int} {z : Int32} (hd : decode cb pc = .ok (.iconst i, 1)) (hp : pc + 1 = pc') (hz : Int32.ofInt i = z) (k : own_E p e below G (T.setTop (mkF m pc' Ls (.int z :: S)))) : own_E p e below G (T.setTop (mkF m pc Ls S)) := by
  subst hp; subst hz; exact own_go (fun _ => XS.iconst X.1.here X.2.1 rfl (hb X.2.2.2.1 hd)) k
theorem own_bipush (X : own_A l Z own cb ml n0 p e R s m args below meth c T h locs cells slots) {i : Int} {z : Int32} (hd : decode cb pc = .ok (.bipush i, 2)) (hp : pc + 2 = pc') (hz : (Int8.ofInt i).toInt32 = z) (k : own_E p e below G (T.setTop (mkF m pc' Ls (.int z :: S)))) : own_E p e below G (T.setTop (mkF m pc Ls S)) := by
  subst hp; subst hz; exact own_go (fun _ => XS.bipush X.1.here X.2.1 rfl (hb X.2.2.2.1 hd)) k
theorem own_sipush (X : own_A l Z own cb ml n0 p e R s m args below meth c T h locs cells slots) {i : Int} {z : Int32} (hd : decode cb pc = .ok (.sipush i, 3)) (hp : pc + 3 = pc') (hz : (Int16.ofInt i).toInt32 = z) (k : own_E p e below G (T.setTop (mkF m pc' Ls (.int z :: S)))) : own_E p e below G (T.setTop (mkF m pc Ls S)) := by
  subst hp; subst hz; exact own_go (fun _ => XS.sipush X.1.here X.2.1 rfl (hb X.2.2.2.1 hd)) k
theorem own_lconst (X : own_A l Z own cb ml n0 p e R s m args below meth c T h locs cells slots) {i : Fin 2} {z : Int64} (hd : decode cb pc = .ok (.lconst i, 1)) (hp : pc + 1 = pc') (hz : Int64.ofNat i = z) (k : own_E p e below G (T.setTop (mkF m pc' Ls (.long z :: S)))) : own_E p e below G (T.setTop (mkF m pc Ls S)) := by
  subst hp; subst hz; exact own_go (fun _ => XS.lconst X.1.here X.2.1 rfl (hb X.2.2.2.1 hd)) k
theorem own_anull (X : own_A l Z own cb ml n0 p e R s m args below meth c T h locs cells slots)  (hd : decode cb pc = .ok (.aconst_null, 1)) (hp : pc + 1 = pc') (k : own_E p e below G (T.setTop (mkF m pc' Ls (.null :: S)))) : own_E p e below G (T.setTop (mkF m pc Ls S)) := by
  subst hp; exact own_go (fun _ => XS.aconstNull X.1.here X.2.1 rfl (hb X.2.2.2.1 hd)) k
theorem own_iadd (X : own_A l Z own cb ml n0 p e R s m args below meth c T h locs cells slots) {x y z : Int32} (hd : decode cb pc = .ok (.iadd, 1)) (hp : pc + 1 = pc') (hz : x + y = z) (k : own_E p e below G (T.setTop (mkF m pc' Ls (.int z :: S)))) : own_E p e below G (T.setTop (mkF m pc Ls (.int y :: .int x :: S))) := by
  subst hp; subst hz; exact own_go (fun _ => XS.iadd X.1.here X.2.1 rfl (hb X.2.2.2.1 hd) rfl) k
theorem own_isub (X : own_A l Z own cb ml n0 p e R s m args below meth c T h locs cells slots) {x y z : Int32} (hd : decode cb pc = .ok (.isub, 1)) (hp : pc + 1 = pc') (hz : x - y = z) (k : own_E p e below G (T.setTop (mkF m pc' Ls (.int z :: S)))) : own_E p e below G (T.setTop (mkF m pc Ls (.int y :: .int x :: S))) := by
  subst hp; subst hz; exact own_go (fun _ => XS.isub X.1.here X.2.1 rfl (hb X.2.2.2.1 hd) rfl) k
theorem own_imul (X : own_A l Z own cb ml n0 p e R s m args below meth c T h locs cells slots) {x y z : Int32} (hd : decode cb pc = .ok (.imul, 1)) (hp : pc + 1 = pc') (hz : x * y = z) (k : own_E p e below G (T.setTop (mkF m pc' Ls (.int z :: S)))) : own_E p e below G (T.setTop (mkF m pc Ls (.int y :: .int x :: S))) := by
  subst hp; subst hz; exact own_go (fun _ => XS.imul X.1.here X.2.1 rfl (hb X.2.2.2.1 hd) rfl) k
theorem own_iand (X : own_A l Z own cb ml n0 p e R s m args below meth c T h locs cells slots) {x y z : Int32} (hd : decode cb pc = .ok (.iand, 1)) (hp : pc + 1 = pc') (hz : x &&& y = z) (k : own_E p e below G (T.setTop (mkF m pc' Ls (.int z :: S)))) : own_E p e below G (T.setTop (mkF m pc Ls (.int y :: .int x :: S))) := by
  subst hp; subst hz; exact own_go (fun _ => XS.iand X.1.here X.2.1 rfl (hb X.2.2.2.1 hd) rfl) k
theorem own_ior (X : own_A l Z own cb ml n0 p e R s m args below meth c T h locs cells slots) {x y z : Int32} (hd : decode cb pc = .ok (.ior, 1)) (hp : pc + 1 = pc') (hz : x ||| y = z) (k : own_E p e below G (T.setTop (mkF m pc' Ls (.int z :: S)))) : own_E p e below G (T.setTop (mkF m pc Ls (.int y :: .int x :: S))) := by
  subst hp; subst hz; exact own_go (fun _ => XS.ior X.1.here X.2.1 rfl (hb X.2.2.2.1 hd) rfl) k
theorem own_ixor (X : own_A l Z own cb ml n0 p e R s m args below meth c T h locs cells slots) {x y z : Int32} (hd : decode cb pc = .ok (.ixor, 1)) (hp : pc + 1 = pc') (hz : x ^^^ y = z) (k : own_E p e below G (T.setTop (mkF m pc' Ls (.int z :: S)))) : own_E p e below G (T.setTop (mkF m pc Ls (.int y :: .int x :: S))) := by
  subst hp; subst hz; exact own_go (fun _ => XS.ixor X.1.here X.2.1 rfl (hb X.2.2.2.1 hd) rfl) k
theorem own_ishl (X : own_A l Z own cb ml n0 p e R s m args below meth c T h locs cells slots) {x y z : Int32} (hd : decode cb pc = .ok (.ishl, 1)) (hp : pc + 1 = pc') (hz : x <<< (y &&& 31) = z) (k : own_E p e below G (T.setTop (mkF m pc' Ls (.int z :: S)))) : own_E p e below G (T.setTop (mkF m pc Ls (.int y :: .int x :: S))) := by
  subst hp; subst hz; exact own_go (fun _ => XS.ishl X.1.here X.2.1 rfl (hb X.2.2.2.1 hd) rfl) k
theorem own_ishr (X : own_A l Z own cb ml n0 p e R s m args below meth c T h locs cells slots) {x y z : Int32} (hd : decode cb pc = .ok (.ishr, 1)) (hp : pc + 1 = pc') (hz : x >>> (y &&& 31) = z) (k : own_E p e below G (T.setTop (mkF m pc' Ls (.int z :: S)))) : own_E p e below G (T.setTop (mkF m pc Ls (.int y :: .int x :: S))) := by
  subst hp; subst hz; exact own_go (fun _ => XS.ishr X.1.here X.2.1 rfl (hb X.2.2.2.1 hd) rfl) k
theorem own_iushr (X : own_A l Z own cb ml n0 p e R s m args below meth c T h locs cells slots) {x y z : Int32} (hd : decode cb pc = .ok (.iushr, 1)) (hp : pc + 1 = pc') (hz : (x.toUInt32 >>> (y &&& 31).toUInt32).toInt32 = z) (k : own_E p e below G (T.setTop (mkF m pc' Ls (.int z :: S)))) : own_E p e below G (T.setTop (mkF m pc Ls (.int y :: .int x :: S))) := by
  subst hp; subst hz; exact own_go (fun _ => XS.iushr X.1.here X.2.1 rfl (hb X.2.2.2.1 hd) rfl) k
theorem own_ladd (X : own_A l Z own cb ml n0 p e R s m args below meth c T h locs cells slots) {x y z : Int64} (hd : decode cb pc = .ok (.ladd, 1)) (hp : pc + 1 = pc') (hz : x + y = z) (k : own_E p e below G (T.setTop (mkF m pc' Ls (.long z :: S)))) : own_E p e below G (T.setTop (mkF m pc Ls (.long y :: .long x :: S))) := by
  subst hp; subst hz; exact own_go (fun _ => XS.ladd X.1.here X.2.1 rfl (hb X.2.2.2.1 hd) rfl) k
theorem own_lsub (X : own_A l Z own cb ml n0 p e R s m args below meth c T h locs cells slots) {x y z : Int64} (hd : decode cb pc = .ok (.lsub, 1)) (hp : pc + 1 = pc') (hz : x - y = z) (k : own_E p e below G (T.setTop (mkF m pc' Ls (.long z :: S)))) : own_E p e below G (T.setTop (mkF m pc Ls (.long y :: .long x :: S))) := by
  subst hp; subst hz; exact own_go (fun _ => XS.lsub X.1.here X.2.1 rfl (hb X.2.2.2.1 hd) rfl) k
theorem own_lmul (X : own_A l Z own cb ml n0 p e R s m args below meth c T h locs cells slots) {x y z : Int64} (hd : decode cb pc = .ok (.lmul, 1)) (hp : pc + 1 = pc') (hz : x * y = z) (k : own_E p e below G (T.setTop (mkF m pc' Ls (.long z :: S)))) : own_E p e below G (T.setTop (mkF m pc Ls (.long y :: .long x :: S))) := by
  subst hp; subst hz; exact own_go (fun _ => XS.lmul X.1.here X.2.1 rfl (hb X.2.2.2.1 hd) rfl) k
theorem own_land (X : own_A l Z own cb ml n0 p e R s m args below meth c T h locs cells slots) {x y z : Int64} (hd : decode cb pc = .ok (.land, 1)) (hp : pc + 1 = pc') (hz : x &&& y = z) (k : own_E p e below G (T.setTop (mkF m pc' Ls (.long z :: S)))) : own_E p e below G (T.setTop (mkF m pc Ls (.long y :: .long x :: S))) := by
  subst hp; subst hz; exact own_go (fun _ => XS.land X.1.here X.2.1 rfl (hb X.2.2.2.1 hd) rfl) k
theorem own_lor (X : own_A l Z own cb ml n0 p e R s m args below meth c T h locs cells slots) {x y z : Int64} (hd : decode cb pc = .ok (.lor, 1)) (hp : pc + 1 = pc') (hz : x ||| y = z) (k : own_E p e below G (T.setTop (mkF m pc' Ls (.long z :: S)))) : own_E p e below G (T.setTop (mkF m pc Ls (.long y :: .long x :: S))) := by
  subst hp; subst hz; exact own_go (fun _ => XS.lor X.1.here X.2.1 rfl (hb X.2.2.2.1 hd) rfl) k
theorem own_lxor (X : own_A l Z own cb ml n0 p e R s m args below meth c T h locs cells slots) {x y z : Int64} (hd : decode cb pc = .ok (.lxor, 1)) (hp : pc + 1 = pc') (hz : x ^^^ y = z) (k : own_E p e below G (T.setTop (mkF m pc' Ls (.long z :: S)))) : own_E p e below G (T.setTop (mkF m pc Ls (.long y :: .long x :: S))) := by
  subst hp; subst hz; exact own_go (fun _ => XS.lxor X.1.here X.2.1 rfl (hb X.2.2.2.1 hd) rfl) k
theorem own_lshl (X : own_A l Z own cb ml n0 p e R s m args below meth c T h locs cells slots) {x z : Int64} {y : Int32} (hd : decode cb pc = .ok (.lshl, 1)) (hp : pc + 1 = pc') (hz : x <<< (y &&& 0x3f).toInt64 = z) (k : own_E p e below G (T.setTop (mkF m pc' Ls (.long z :: S)))) : own_E p e below G (T.setTop (mkF m pc Ls (.int y :: .long x :: S))) := by
  subst hp; subst hz; exact own_go (fun _ => XS.lshl X.1.here X.2.1 rfl (hb X.2.2.2.1 hd) rfl) k
theorem own_lshr (X : own_A l Z own cb ml n0 p e R s m args below meth c T h locs cells slots) {x z : Int64} {y : Int32} (hd : decode cb pc = .ok (.lshr, 1)) (hp : pc + 1 = pc') (hz : x >>> (y &&& 0x3f).toInt64 = z) (k : own_E p e below G (T.setTop (mkF m pc' Ls (.long z :: S)))) : own_E p e below G (T.setTop (mkF m pc Ls (.int y :: .long x :: S))) := by
  subst hp; subst hz; exact own_go (fun _ => XS.lshr X.1.here X.2.1 rfl (hb X.2.2.2.1 hd) rfl) k
theorem own_lushr (X : own_A l Z own cb ml n0 p e R s m args below meth c T h locs cells slots) {x z : Int64} {y : Int32} (hd : decode cb pc = .ok (.lushr, 1)) (hp : pc + 1 = pc') (hz : (x.toUInt64 >>> (y &&& 0x3f).toInt64.toUInt64).toInt64 = z) (k : own_E p e below G (T.setTop (mkF m pc' Ls (.long z :: S)))) : own_E p e below G (T.setTop (mkF m pc Ls (.int y :: .long x :: S))) := by
  subst hp; subst hz; exact own_go (fun _ => XS.lushr X.1.here X.2.1 rfl (hb X.2.2.2.1 hd) rfl) k
theorem own_idiv (X : own_A l Z own cb ml n0 p e R s m args below meth c T h locs cells slots) {x y z : Int32} (hd : decode cb pc = .ok (.idiv, 1)) (hp : pc + 1 = pc') (hy : y ≠ 0) (hz : x / y = z) (k : own_E p e below G (T.setTop (mkF m pc' Ls (.int z :: S)))) : own_E p e below G (T.setTop (mkF m pc Ls (.int y :: .int x :: S))) := by
  subst hp; subst hz; exact own_go (fun _ => XS.idiv X.1.here X.2.1 rfl (hb X.2.2.2.1 hd) rfl hy) k
theorem own_irem (X : own_A l Z own cb ml n0 p e R s m args below meth c T h locs cells slots) {x y z : Int32} (hd : decode cb pc = .ok (.irem, 1)) (hp : pc + 1 = pc') (hy : y ≠ 0) (hz : x % y = z) (k : own_E p e below G (T.setTop (mkF m pc' Ls (.int z :: S)))) : own_E p e below G (T.setTop (mkF m pc Ls (.int y :: .int x :: S))) := by
  subst hp; subst hz; exact own_go (fun _ => iremM X.1 X.2.1 rfl (hb X.2.2.2.1 hd) rfl hy) k
theorem own_ldiv (X : own_A l Z own cb ml n0 p e R s m args below meth c T h locs cells slots) {x y z : Int64} (hd : decode cb pc = .ok (.ldiv, 1)) (hp : pc + 1 = pc') (hy : y ≠ 0) (hz : x / y = z) (k : own_E p e below G (T.setTop (mkF m pc' Ls (.long z :: S)))) : own_E p e below G (T.setTop (mkF m pc Ls (.long y :: .long x :: S))) := by
  subst hp; subst hz; exact own_go (fun _ => XS.ldiv X.1.here X.2.1 rfl (hb X.2.2.2.1 hd) rfl hy) k
theorem own_lrem (X : own_A l Z own cb ml n0 p e R s m args below meth c T h locs cells slots) {x y z : Int64} (hd : decode cb pc = .ok (.lrem, 1)) (hp : pc + 1 = pc') (hy : y ≠ 0) (hz : x - (x / y) * y = z) (k : own_E p e below G (T.setTop (mkF m pc' Ls (.long z :: S)))) : own_E p e below G (T.setTop (mkF m pc Ls (.long y :: .long x :: S))) := by
  subst hp; subst hz; exact own_go (fun _ => XS.lrem X.1.here X.2.1 rfl (hb X.2.2.2.1 hd) rfl hy) k
theorem own_ineg (X : own_A l Z own cb ml n0 p e R s m args below meth c T h locs cells slots) {x : Int32} {z : Int32} (hd : decode cb pc = .ok (.ineg, 1)) (hp : pc + 1 = pc') (hz : -x = z) (k : own_E p e below G (T.setTop (mkF m pc' Ls (.int z :: S)))) : own_E p e below G (T.setTop (mkF m pc Ls (.int x :: S))) := by
  subst hp; subst hz; exact own_go (fun _ => XS.ineg X.1.here X.2.1 rfl (hb X.2.2.2.1 hd) rfl) k
theorem own_lneg (X : own_A l Z own cb ml n0 p e R s m args below meth c T h locs cells slots) {x : Int64} {z : Int64} (hd : decode cb pc = .ok (.lneg, 1)) (hp : pc + 1 = pc') (hz : -x = z) (k : own_E p e below G (T.setTop (mkF m pc' Ls (.long z :: S)))) : own_E p e below G (T.setTop (mkF m pc Ls (.long x :: S))) := by
  subst hp; subst hz; exact own_go (fun _ => XS.lneg X.1.here X.2.1 rfl (hb X.2.2.2.1 hd) rfl) k
theorem own_i2l (X : own_A l Z own cb ml n0 p e R s m args below meth c T h locs cells slots) {x : Int32} {z : Int64} (hd : decode cb pc = .ok (.i2l, 1)) (hp : pc + 1 = pc') (hz : x.toInt64 = z) (k : own_E p e below G (T.setTop (mkF m pc' Ls (.long z :: S)))) : own_E p e below G (T.setTop (mkF m pc Ls (.int x :: S))) := by
  subst hp; subst hz; exact own_go (fun _ => XS.i2l X.1.here X.2.1 rfl (hb X.2.2.2.1 hd) rfl) k
theorem own_l2i (X : own_A l Z own cb ml n0 p e R s m args below meth c T h locs cells slots) {x : Int64} {z : Int32} (hd : decode cb pc = .ok (.l2i, 1)) (hp : pc + 1 = pc') (hz : x.toInt32 = z) (k : own_E p e below G (T.setTop (mkF m pc' Ls (.int z :: S)))) : own_E p e below G (T.setTop (mkF m pc Ls (.long x :: S))) := by
  subst hp; subst hz; exact own_go (fun _ => XS.l2i X.1.here X.2.1 rfl (hb X.2.2.2.1 hd) rfl) k
theorem own_i2b (X : own_A l Z own cb ml n0 p e R s m args below meth c T h locs cells slots) {x : Int32} {z : Int32} (hd : decode cb pc = .ok (.i2b, 1)) (hp : pc + 1 = pc') (hz : x.toInt8.toInt32 = z) (k : own_E p e below G (T.setTop (mkF m pc' Ls (.int z :: S)))) : own_E p e below G (T.setTop (mkF m pc Ls (.int x :: S))) := by
  subst hp; subst hz; exact own_go (fun _ => XS.i2b X.1.here X.2.1 rfl (hb X.2.2.2.1 hd) rfl) k
theorem own_i2s (X : own_A l Z own cb ml n0 p e R s m args below meth c T h locs cells slots) {x : Int32} {z : Int32} (hd : decode cb pc = .ok (.i2s, 1)) (hp : pc + 1 = pc') (hz : x.toInt16.toInt32 = z) (k : own_E p e below G (T.setTop (mkF m pc' Ls (.int z :: S)))) : own_E p e below G (T.setTop (mkF m pc Ls (.int x :: S))) := by
  subst hp; subst hz; exact own_go (fun _ => XS.i2s X.1.here X.2.1 rfl (hb X.2.2.2.1 hd) rfl) k
theorem own_i2c (X : own_A l Z own cb ml n0 p e R s m args below meth c T h locs cells slots) {x : Int32} {z : Int32} (hd : decode cb pc = .ok (.i2c, 1)) (hp : pc + 1 = pc') (hz : x.toUInt32.toUInt16.toUInt32.toInt32 = z) (k : own_E p e below G (T.setTop (mkF m pc' Ls (.int z :: S)))) : own_E p e below G (T.setTop (mkF m pc Ls (.int x :: S))) := by
  subst hp; subst hz; exact own_go (fun _ => XS.i2c X.1.here X.2.1 rfl (hb X.2.2.2.1 hd) rfl) k
theorem own_iinc (X : own_A l Z own cb ml n0 p e R s m args below meth c T h locs cells slots) {i : Nat} {cst : Int} {x z : Int32} (hd : decode cb pc = .ok (.iinc i cst, 3)) (hp : pc + 3 = pc') (hl : Ls[i]? = some (.val (.int x))) (hz : x + Int32.ofInt cst = z) (hl' : storeLocals Ls i (.int z) = some Ls') (k : own_E p e below G (T.setTop (mkF m pc' Ls' S))) : own_E p e below G (T.setTop (mkF m pc Ls S)) := by
  subst hp; subst hz; exact own_go (fun _ => XS.iinc X.1.here X.2.1 rfl (hb X.2.2.2.1 hd) hl hl') k
theorem own_dup (X : own_A l Z own cb ml n0 p e R s m args below meth c T h locs cells slots) {v : Value} (hd : decode cb pc = .ok (.dup, 1)) (hp : pc + 1 = pc') (hc : v.category = 1) (k : own_E p e below G (T.setTop (mkF m pc' Ls (v :: v :: S)))) : own_E p e below G (T.setTop (mkF m pc Ls (v :: S))) := by
  subst hp; exact own_go (fun _ => XS.dup X.1.here X.2.1 rfl (hb X.2.2.2.1 hd) rfl hc) k
theorem own_pop (X : own_A l Z own cb ml n0 p e R s m args below meth c T h locs cells slots) {v : Value} (hd : decode cb pc = .ok (.pop, 1)) (hp : pc + 1 = pc') (hc : v.category = 1) (k : own_E p e below G (T.setTop (mkF m pc' Ls S))) : own_E p e below G (T.setTop (mkF m pc Ls (v :: S))) := by
  subst hp; exact own_go (fun _ => XS.pop X.1.here X.2.1 rfl (hb X.2.2.2.1 hd) rfl hc) k
theorem own_goto (X : own_A l Z own cb ml n0 p e R s m args below meth c T h locs cells slots) {o : Int} (hd : decode cb pc = .ok (.goto o, 3)) (ho : 0 ≤ (pc : Int) + o) (hp : ((pc : Int) + o).toNat = pc') (k : own_E p e below G (T.setTop (mkF m pc' Ls S))) : own_E p e below G (T.setTop (mkF m pc Ls S)) :=
  own_go (fun _ => XS.goto X.1.here X.2.1 rfl rfl (hb X.2.2.2.1 hd) ho hp) k
theorem own_icmpY (X : own_A l Z own cb ml n0 p e R s m args below meth c T h locs cells slots) {cd : ClassFile.Cond} {o : Int} {x y : Int32} (hd : decode cb pc = .ok (.if_icmp cd o, 3)) (hc : if_icmp.holds cd x y = true) (ho : 0 ≤ (pc : Int) + o) (hp : ((pc : Int) + o).toNat = pc') (k : own_E p e below G (T.setTop (mkF m pc' Ls S))) : own_E p e below G (T.setTop (mkF m pc Ls (.int y :: .int x :: S))) :=
  own_go (fun _ => XS.icmpYes X.1.here X.2.1 rfl rfl (hb X.2.2.2.1 hd) rfl hc ho hp) k
theorem own_icmpN (X : own_A l Z own cb ml n0 p e R s m args below meth c T h locs cells slots) {cd : ClassFile.Cond} {o : Int} {x y : Int32} (hd : decode cb pc = .ok (.if_icmp cd o, 3)) (hc : if_icmp.holds cd x y = false) (hp : pc + 3 = pc') (k : own_E p e below G (T.setTop (mkF m pc' Ls S))) : own_E p e below G (T.setTop (mkF m pc Ls (.int y :: .int x :: S))) := by
  subst hp; exact own_go (fun _ => XS.icmpNo X.1.here X.2.1 rfl (hb X.2.2.2.1 hd) rfl hc) k
theorem own_ifY (X : own_A l Z own cb ml n0 p e R s m args below meth c T h locs cells slots) {cd : ClassFile.Cond} {o : Int} {x : Int32} (hd : decode cb pc = .ok (.ifCond cd o, 3)) (hc : if_icmp.holds cd x 0 = true) (ho : 0 ≤ (pc : Int) + o) (hp : ((pc : Int) + o).toNat = pc') (k : own_E p e below G (T.setTop (mkF m pc' Ls S))) : own_E p e below G (T.setTop (mkF m pc Ls (.int x :: S))) :=
  own_go (fun _ => XS.ifYes X.1.here X.2.1 rfl rfl (hb X.2.2.2.1 hd) rfl ((if0 _ _).trans hc) ho hp) k
theorem own_ifN (X : own_A l Z own cb ml n0 p e R s m args below meth c T h locs cells slots) {cd : ClassFile.Cond} {o : Int} {x : Int32} (hd : decode cb pc = .ok (.ifCond cd o, 3)) (hc : if_icmp.holds cd x 0 = false) (hp : pc + 3 = pc') (k : own_E p e below G (T.setTop (mkF m pc' Ls S))) : own_E p e below G (T.setTop (mkF m pc Ls (.int x :: S))) := by
  subst hp; exact own_go (fun _ => XS.ifNo X.1.here X.2.1 rfl (hb X.2.2.2.1 hd) rfl ((if0 _ _).trans hc)) k
theorem own_ljY (X : own_A l Z own cb ml n0 p e R s m args below meth c T h locs cells slots) {cd : ClassFile.Cond} {o : Int} {x y : Int64} {pc1 : Nat} (hd1 : decode cb pc = .ok (.lcmp, 1)) (h1 : pc + 1 = pc1) (hd : decode cb pc1 = .ok (.ifCond cd o, 3)) (hc : if_icmp.holds cd (lcmpW x y) 0 = true) (ho : 0 ≤ (pc1 : Int) + o) (hp : ((pc1 : Int) + o).toNat = pc') (k : own_E p e below G (T.setTop (mkF m pc' Ls S))) : own_E p e below G (T.setTop (mkF m pc Ls (.long y :: .long x :: S))) := by
  subst h1
  exact own_go (fun _ k => XS.lcmp X.1.here X.2.1 rfl (hb X.2.2.2.1 hd1) rfl (XS.ifYes X.1.here X.2.1 rfl rfl (hb X.2.2.2.1 hd) rfl ((if0 _ _).trans hc) ho hp k)) k
theorem own_ljN (X : own_A l Z own cb ml n0 p e R s m args below meth c T h locs cells slots) {cd : ClassFile.Cond} {o : Int} {x y : Int64} {pc1 : Nat} (hd1 : decode cb pc = .ok (.lcmp, 1)) (h1 : pc + 1 = pc1) (hd : decode cb pc1 = .ok (.ifCond cd o, 3)) (hc : if_icmp.holds cd (lcmpW x y) 0 = false) (hp : pc1 + 3 = pc') (k : own_E p e below G (T.setTop (mkF m pc' Ls S))) : own_E p e below G (T.setTop (mkF m pc Ls (.long y :: .long x :: S))) := by
  subst h1; subst hp
  exact own_go (fun _ k => XS.lcmp X.1.here X.2.1 rfl (hb X.2.2.2.1 hd1) rfl (XS.ifNo X.1.here X.2.1 rfl (hb X.2.2.2.1 hd) rfl ((if0 _ _).trans hc) k)) k
theorem own_tltL {x y : Int64} (q : x < y) : if_icmp.holds .lt (lcmpW x y) 0 = true ∧ if_icmp.holds .ge (lcmpW x y) 0 = false ∧ if_icmp.holds .gt (lcmpW y x) 0 = true ∧ if_icmp.holds .le (lcmpW y x) 0 = false :=
  ⟨(tlt ((lw_lt x y).mpr q)).1, (tlt ((lw_lt x y).mpr q)).2.1, (tlt ((lw_gt y x).mpr q)).2.2.1, (tlt ((lw_gt y x).mpr q)).2.2.2⟩
theorem own_fltL {x y : Int64} (q : ¬ x < y) : if_icmp.holds .lt (lcmpW x y) 0 = false ∧ if_icmp.holds .ge (lcmpW x y) 0 = true ∧ if_icmp.holds .gt (lcmpW y x) 0 = false ∧ if_icmp.holds .le (lcmpW y x) 0 = true :=
  ⟨(flt (fun z => q ((lw_lt x y).mp z))).1, (flt (fun z => q ((lw_lt x y).mp z))).2.1, (flt (fun z => q ((lw_gt y x).mp z))).2.2.1, (flt (fun z => q ((lw_gt y x).mp z))).2.2.2⟩
theorem own_teqL {x y : Int64} (q : x = y) : if_icmp.holds .eq (lcmpW x y) 0 = true ∧ if_icmp.holds .ne (lcmpW x y) 0 = false := teq ((lw_eq x y).mpr q)
theorem own_feqL {x y : Int64} (q : ¬ x = y) : if_icmp.holds .eq (lcmpW x y) 0 = false ∧ if_icmp.holds .ne (lcmpW x y) 0 = true := feq (fun z => q ((lw_eq x y).mp z))
theorem own_ifnullY (X : own_A l Z own cb ml n0 p e R s m args below meth c T h locs cells slots) {o : Int} (hd : decode cb pc = .ok (.ifnull o, 3)) (ho : 0 ≤ (pc : Int) + o) (hp : ((pc : Int) + o).toNat = pc') (k : own_E p e below G (T.setTop (mkF m pc' Ls S))) : own_E p e below G (T.setTop (mkF m pc Ls (.null :: S))) :=
  own_go (fun _ => XS.ifnullYes X.1.here X.2.1 rfl rfl (hb X.2.2.2.1 hd) rfl ho hp) k
theorem own_ifnullN (X : own_A l Z own cb ml n0 p e R s m args below meth c T h locs cells slots) {o : Int} {b : Addr} (hd : decode cb pc = .ok (.ifnull o, 3)) (hp : pc + 3 = pc') (k : own_E p e below G (T.setTop (mkF m pc' Ls S))) : own_E p e below G (T.setTop (mkF m pc Ls (.ref b :: S))) := by
  subst hp; exact own_go (fun _ => XS.ifnullNo X.1.here X.2.1 rfl (hb X.2.2.2.1 hd) rfl) k
theorem own_ldc (X : own_A l Z own cb ml n0 p e R s m args below meth c T h locs cells slots) {i : Nat} {v : Int32} (w : (Jvm.Cond.constant own i v).before a0 Z = true) (hd : decode cb pc = .ok (.ldc i, 2)) (hp : pc + 2 = pc') (k : own_E p e below G (T.setTop (mkF m pc' Ls (.int v :: S)))) : own_E p e below G (T.setTop (mkF m pc Ls S)) := by
  subst hp; exact own_go (X.1.ldcInt X.2.1 X.2.2.2.2.2.1 (mvT X.2.2.1 w) rfl (hb X.2.2.2.1 hd)) k
theorem own_ldc2 (X : own_A l Z own cb ml n0 p e R s m args below meth c T h locs cells slots) {i : Nat} {v : Int64} (w : (Jvm.Cond.constantLong own i v).before a0 Z = true) (hd : decode cb pc = .ok (.ldc2_w i, 3)) (hp : pc + 3 = pc') (k : own_E p e below G (T.setTop (mkF m pc' Ls (.long v :: S)))) : own_E p e below G (T.setTop (mkF m pc Ls S)) := by
  subst hp; exact own_go (X.1.ldc2Long X.2.1 X.2.2.2.2.2.1 (mvT X.2.2.1 w) rfl (hb X.2.2.2.1 hd)) k
theorem own_callS (X : own_A l Z own cb ml n0 p e R s m args below meth c T h locs cells slots) {y : MethodName} {cb' : ByteArray} {ml' : Nat} {ret' : Option FieldType} {rm : Room} {argsL st : List Value} {Q : Option Value → Heap → Prop} {i : Nat} (hC : own_Con l Z y cb' ml' ret' rm argsL.toArray h n0 Q)
    (w1 : (Jvm.Cond.methodLink own i y).before a0 Z = true) (w2 : (Jvm.Cond.static y).before a0 Z = true) (w3 : (Jvm.Cond.initialized y.cls).before a0 Z = true) (w4 : (Jvm.Cond.code y cb' ml' ret').before a0 Z = true) (hy : y.cls ≠ "java/lang/invoke/MethodHandle" ∧ y.cls ≠ "java/lang/invoke/VarHandle")
    (hf : rm.frames + 1 ≤ R.frames) (W : Nat) (hl : W + (ml' + 11) + rm.locals ≤ R.locals) (hls : Ls.size = ml) {ps : List FieldType} {r : Option FieldType} (hpd : parseMethodDescriptor y.desc = some ⟨ps, r⟩) (hlen : argsL.length = ps.length) (hst : st = argsL.reverse ++ S) (hW : (S.map fun v => v.category).sum ≤ W) (hcl : cells + rm.cells ≤ R.cells) (hsl : slots + rm.slots ≤ R.slots)
    (hd : decode cb pc = .ok (.invokestatic i, 3)) (hp : pc + 3 = pc') (k : ∀ T' h' locs' v, own_A l Z own cb ml n0 p e R s m args below meth c T' h' locs' (cells + rm.cells) (slots + rm.slots) → Q v h' → own_E p e below G (T'.setTop (mkF m pc' Ls (v.toList ++ S)))) : own_E p e below G (T.setTop (mkF m pc Ls st)) := by
  obtain ⟨X, hx, hZ, hby, hml, hown, eT, N, hsz, hlk⟩ := X
  subst hp
  obtain ⟨v, _, ⟨T', L', k', n'⟩, -, X', ⟨Lc, hQ, q1, q2, q3⟩, stp⟩ := Jvm.LawKit.callS X hx (y := y) hown (mvT hZ w1) (mvT hZ w2) (mvT hZ w3) (mvT hZ w4) hy (backOf (Q := fun v h L => Q v h ∧ Fr n0 L ∧ n0 ≤ h.size) (W := W) (hC []) hZ w4 w3 hf hl) (g := mkF m pc Ls st) rfl (by rw [hml]; exact hls) (argsL := argsL) (rest := S) (lenOf hpd hlen) hst (by show 2 * 0 + _ ≤ _; omega) (hb hby hd) (fun _ _ => ⟨rfl, eT, hcl, hsl⟩)
  dsimp only [Pt.U, Pt.locs, Pt.cells, Pt.slots] at X' q1 q2 q3 stp hQ
  subst q1 q2 q3
  exact own_go stp (k _ _ _ _ ⟨X', hx, hZ, hby, hml, hown, rfl, N.app hQ.2.1, hQ.2.2, hlk⟩ hQ.1)
theorem own_callI (X : own_A l Z own cb ml n0 p e R s m args below meth c T h locs cells slots) {y : MethodName} {cb' : ByteArray} {ml' : Nat} {rm : Room} {a : Addr} {argsL st : List Value} {Q : Option Value → Heap → Prop} {i : Nat} (hC : own_Con l Z y cb' ml' none rm (.ref a :: argsL).toArray h n0 Q) (hy1 : y.name = "<init>")
    (w1 : (Jvm.Cond.methodLink own i y).before a0 Z = true) (w2 : (Jvm.Cond.instanceMethod y).before a0 Z = true) (w3 : (Jvm.Cond.initialized y.cls).before a0 Z = true) (w4 : (Jvm.Cond.code y cb' ml' none).before a0 Z = true) (hy : y.cls ≠ "java/lang/invoke/MethodHandle" ∧ y.cls ≠ "java/lang/invoke/VarHandle")
    (hf : rm.frames + 1 ≤ R.frames) (W : Nat) (hl : W + (ml' + 11) + rm.locals ≤ R.locals) (hls : Ls.size = ml) {ps : List FieldType} {r : Option FieldType} (hpd : parseMethodDescriptor y.desc = some ⟨ps, r⟩) (hlen : argsL.length = ps.length) (hst : st = argsL.reverse ++ .ref a :: S) (hW : (S.map fun v => v.category).sum ≤ W) (hcl : cells + rm.cells ≤ R.cells) (hsl : slots + rm.slots ≤ R.slots)
    (hd : decode cb pc = .ok (.invokespecial i, 3)) (hp : pc + 3 = pc') (k : ∀ T' h' locs' v, own_A l Z own cb ml n0 p e R s m args below meth c T' h' locs' (cells + rm.cells) (slots + rm.slots) → Q v h' → own_E p e below G (T'.setTop (mkF m pc' Ls (v.toList ++ S)))) : own_E p e below G (T.setTop (mkF m pc Ls st)) := by
  obtain ⟨X, hx, hZ, hby, hml, hown, eT, N, hsz, hlk⟩ := X
  subst hp
  obtain ⟨v, _, ⟨T', L', k', n'⟩, -, X', ⟨Lc, hQ, q1, q2, q3⟩, stp⟩ := X.specialBack hx (y := y) hy1 hown (mvT hZ w1) (mvT hZ w2) (mvT hZ w4) hy (backOf (Q := fun v h L => Q v h ∧ Fr n0 L ∧ n0 ≤ h.size) (W := W) (hC []) hZ w4 w3 hf hl) (g := mkF m pc Ls st) rfl (by rw [hml]; exact hls) (Steps.refl _) (a := a) (argsL := argsL) (rest := S) (lenOf hpd hlen) hst (by show 2 * 0 + _ ≤ _; omega) (hb hby hd) (fun _ _ => ⟨rfl, eT, hcl, hsl⟩)
  dsimp only [Pt.U, Pt.locs, Pt.cells, Pt.slots] at X' q1 q2 q3 stp hQ
  subst q1 q2 q3
  exact own_go (fun _ z => stp.trans z) (k _ _ _ _ ⟨X', hx, hZ, hby, hml, hown, rfl, N.app hQ.2.1, hQ.2.2, hlk⟩ hQ.1)
theorem own_callV (X : own_A l Z own cb ml n0 p e R s m args below meth c T h locs cells slots) {y : MethodName} {C : String} {cb' : ByteArray} {ml' : Nat} {ret' : Option FieldType} {rm : Room} {a : Addr} {argsL st : List Value} {Q : Option Value → Heap → Prop} {i : Nat} (hC : own_Con l Z y cb' ml' ret' rm (.ref a :: argsL).toArray h n0 Q) (E : Exa Z h a C)
    (w1 : (Jvm.Cond.methodLink own i y).before a0 Z = true) (w2 : (Jvm.Cond.declares y).before a0 Z = true) (w5 : (Jvm.Cond.selects C y y).before a0 Z = true) (w6 : (Jvm.Cond.instanceMethod y).before a0 Z = true) (w3 : (Jvm.Cond.initialized y.cls).before a0 Z = true) (w4 : (Jvm.Cond.code y cb' ml' ret').before a0 Z = true) (hy : y.cls ≠ "java/lang/invoke/MethodHandle" ∧ y.cls ≠ "java/lang/invoke/VarHandle")
    (hf : rm.frames + 1 ≤ R.frames) (W : Nat) (hl : W + (ml' + 11) + rm.locals ≤ R.locals) (hls : Ls.size = ml) {ps : List FieldType} {r : Option FieldType} (hpd : parseMethodDescriptor y.desc = some ⟨ps, r⟩) (hlen : argsL.length = ps.length) (hst : st = argsL.reverse ++ .ref a :: S) (hW : (S.map fun v => v.category).sum ≤ W) (hcl : cells + rm.cells ≤ R.cells) (hsl : slots + rm.slots ≤ R.slots)
    (hd : decode cb pc = .ok (.invokevirtual i, 3)) (hp : pc + 3 = pc') (hC0 : y.cls = C) (k : ∀ T' h' locs' v, own_A l Z own cb ml n0 p e R s m args below meth c T' h' locs' (cells + rm.cells) (slots + rm.slots) → Q v h' → own_E p e below G (T'.setTop (mkF m pc' Ls (v.toList ++ S)))) : own_E p e below G (T.setTop (mkF m pc Ls st)) := by
  obtain ⟨X, hx, hZ, hby, hml, hown, eT, N, hsz, hlk⟩ := X
  subst hp; subst hC0
  obtain ⟨cq, kq, qa, qb, qc⟩ := isOf hZ eT E
  obtain ⟨v, _, ⟨T', L', k', n'⟩, -, X', ⟨Lc, hQ, q1, q2, q3⟩, stp⟩ := X.virtualBack hx (y := y) (z := y) hown (mvT hZ w1) (mvT hZ w2) (notFace_of_selects (args := #[]) (mvT hZ w5)) (mvT hZ w5) (mvT hZ w6) hy (backOf (Q := fun v h L => Q v h ∧ Fr n0 L ∧ n0 ≤ h.size) (W := W) (hC []) hZ w4 w3 hf hl) qa qc (g := mkF m pc Ls st) rfl (by rw [hml]; exact hls) (Steps.refl _) (argsL := argsL) (rest := S) (lenOf hpd hlen) hst (by show 2 * 0 + _ ≤ _; omega) (hb hby hd) (fun _ _ => ⟨rfl, eT, hcl, hsl⟩)
  dsimp only [Pt.U, Pt.locs, Pt.cells, Pt.slots] at X' q1 q2 q3 stp hQ
  subst q1 q2 q3
  exact own_go (fun _ z => stp.trans z) (k _ _ _ _ ⟨X', hx, hZ, hby, hml, hown, rfl, N.app hQ.2.1, hQ.2.2, hlk⟩ hQ.1)
theorem own_initO (X : own_A l Z own cb ml n0 p e R s m args below meth c T h locs cells slots) {i : Nat} {a : Addr} (w1 : (Jvm.Cond.methodLink own i Lib.objectInit).before a0 Z = true) (w2 : (Jvm.Cond.instanceMethod Lib.objectInit).before a0 Z = true) (w3 : (Jvm.Cond.code Lib.objectInit ⟨#[0xb1]⟩ 1 none).before a0 Z = true) (hls : Ls.size = ml) (hf : 1 ≤ R.frames) (W : Nat) (hW : (S.map fun v => v.category).sum ≤ W) (hl : W + 12 ≤ R.locals)
    (hd : decode cb pc = .ok (.invokespecial i, 3)) (hp : pc + 3 = pc') (k : ∀ T', own_A l Z own cb ml n0 p e R s m args below meth c T' h locs cells slots → own_E p e below G (T'.setTop (mkF m pc' Ls S))) : own_E p e below G (T.setTop (mkF m pc Ls (.ref a :: S))) := by
  obtain ⟨X, hx, hZ, hby, hml, hown, eT, N, hsz, hlk⟩ := X
  subst hp
  obtain ⟨T', X', eT', stp⟩ := initO X hx hZ hown w1 w2 w3 eT (g := mkF m pc Ls (.ref a :: S)) rfl (by rw [hml]; exact hls) rfl (hb hby hd) hf (W := W) (by show 2 * 0 + _ ≤ _; omega) hl
  exact own_go stp (k _ ⟨X', hx, hZ, hby, hml, hown, eT', N, hsz, hlk⟩)
theorem own_getF (X : own_A l Z own cb ml n0 p e R s m args below meth c T h locs cells slots) {i : Nat} {a : Addr} {C f d : String} {v : Value} (w1 : (Jvm.Cond.fieldLink own i C f d).before a0 Z = true) (F : Fld Z h a C f d v)
    (hd : decode cb pc = .ok (.getfield i, 3)) (hp : pc + 3 = pc') (k : ∀ T', own_A l Z own cb ml n0 p e R s m args below meth c T' h locs cells slots → own_E p e below G (T'.setTop (mkF m pc' Ls (v :: S)))) : own_E p e below G (T.setTop (mkF m pc Ls (.ref a :: S))) := by
  obtain ⟨X, hx, hZ, hby, hml, hown, eT, N, hsz, hlk⟩ := X
  subst hp
  obtain ⟨T', X', eT', stp⟩ := getF X hx hZ hown (host := "") (Or.inl w1) Via.refl eT F (g := mkF m pc Ls (.ref a :: S)) rfl rfl (hb hby hd)
  exact own_go stp (k _ ⟨X', hx, hZ, hby, hml, hown, eT', N, hsz, hlk⟩)
theorem own_getS (X : own_A l Z own cb ml n0 p e R s m args below meth c T h locs cells slots) {i : Nat} {C f d : String} {v : Value} (w1 : (Jvm.Cond.fieldLink own i C f d).before a0 Z = true) (F : Sta Z h C f d v)
    (hd : decode cb pc = .ok (.getstatic i, 3)) (hp : pc + 3 = pc') (k : ∀ T', own_A l Z own cb ml n0 p e R s m args below meth c T' h locs cells slots → own_E p e below G (T'.setTop (mkF m pc' Ls (v :: S)))) : own_E p e below G (T.setTop (mkF m pc Ls S)) := by
  obtain ⟨X, hx, hZ, hby, hml, hown, eT, N, hsz, hlk⟩ := X
  subst hp
  obtain ⟨T', X', eT', stp⟩ := getS2 X hx hZ hown (host := "") (Or.inl w1) Via.refl eT F (g := mkF m pc Ls S) rfl (hb hby hd)
  exact own_go stp (k _ ⟨X', hx, hZ, hby, hml, hown, eT', N, hsz, hlk⟩)
theorem own_staK {C f d : String} {v : Value} (F : Sta Z h C f d v) (K : Keep h h' []) : Sta Z h' C f d v := by
  obtain ⟨cf, i, k, f', st, cell, h1, h2, h3, h4, h5, r⟩ := F
  exact ⟨cf, i, k, f', st, cell, h1, h2, h3, h4, K.2.1 _ _ h5 (fun q => nomatch q), r⟩
theorem own_putF (X : own_A l Z own cb ml n0 p e R s m args below meth c T h locs cells slots) {i kk : Nat} {a : Addr} {C f d : String} {v old : Value} {ty : FieldType} (w1 : (Jvm.Cond.fieldLink own i C f d).before a0 Z = true) (F : Fld Z h a C f d old) (E : Exa Z h a C) (L : (Jvm.Cond.lays C C f d).before a0 Z = true ∨ ((Jvm.Cond.laysFinal C C f d).before a0 Z = true ∧ own = C ∧ meth.name = "<init>")) (wi : (Jvm.Cond.instantiable C kk).before a0 Z = true)
    (hty : parseFieldDescriptor d = some ty) (hn : narrow ty v = v) (hft : fits ty v = true) (hg : n0 ≤ a) (hd : decode cb pc = .ok (.putfield i, 3)) (hp : pc + 3 = pc')
    (k : ∀ T' h' locs', own_A l Z own cb ml n0 p e R s m args below meth c T' h' locs' cells slots → Wr h h' a (Jvm.RoadKit.slotOf Z C f d) v → Fld Z h' a C f d v → own_E p e below G (T'.setTop (mkF m pc' Ls S))) : own_E p e below G (T.setTop (mkF m pc Ls (v :: .ref a :: S))) := by
  obtain ⟨X, hx, hZ, hby, hml, hown, eT, N, hsz, hlk⟩ := X
  subst hp
  obtain ⟨T', h', X', eT', W, stp⟩ := putF X hx hZ hown (host := "") (Or.inl w1) Via.refl eT F E L wi hty hn hft (g := mkF m pc Ls (v :: .ref a :: S)) rfl rfl (hb hby hd)
  exact own_go stp (k _ _ _ ⟨X', hx, hZ, hby, hml, hown, eT', Fr.snoc X' N hg, by rw [W.size]; exact hsz, hlk⟩ W (F.same W))
theorem own_putFN (X : own_A l Z own cb ml n0 p e R s m args below meth c T h locs cells slots) {i kk : Nat} {a : Addr} {C f d : String} {v v' old : Value} {ty : FieldType} (w1 : (Jvm.Cond.fieldLink own i C f d).before a0 Z = true) (F : Fld Z h a C f d old) (E : Exa Z h a C) (L : (Jvm.Cond.lays C C f d).before a0 Z = true ∨ ((Jvm.Cond.laysFinal C C f d).before a0 Z = true ∧ own = C ∧ meth.name = "<init>")) (wi : (Jvm.Cond.instantiable C kk).before a0 Z = true)
    (hty : parseFieldDescriptor d = some ty) (hn : narrow ty v = v') (hft : fits ty v' = true) (hg : n0 ≤ a) (hd : decode cb pc = .ok (.putfield i, 3)) (hp : pc + 3 = pc')
    (k : ∀ T' h' locs', own_A l Z own cb ml n0 p e R s m args below meth c T' h' locs' cells slots → Wr h h' a (Jvm.RoadKit.slotOf Z C f d) v' → Fld Z h' a C f d v' → own_E p e below G (T'.setTop (mkF m pc' Ls S))) : own_E p e below G (T.setTop (mkF m pc Ls (v :: .ref a :: S))) := by
  obtain ⟨X, hx, hZ, hby, hml, hown, eT, N, hsz, hlk⟩ := X
  subst hp
  obtain ⟨T', h', X', eT', W, stp⟩ := putFN X hx hZ hown w1 Via.refl eT F E L wi hty hn hft (g := mkF m pc Ls (v :: .ref a :: S)) rfl rfl (hb hby hd)
  exact own_go stp (k _ _ _ ⟨X', hx, hZ, hby, hml, hown, eT', Fr.snoc X' N hg, by rw [W.size]; exact hsz, hlk⟩ W (F.same W))
theorem own_new (X : own_A l Z own cb ml n0 p e R s m args below meth c T h locs cells slots) {i n : Nat} {C : String} (w1 : (Jvm.Cond.classLink own i C).before a0 Z = true) (w2 : (Jvm.Cond.instantiable C n).before a0 Z = true) (w3 : (Jvm.Cond.initialized C).before a0 Z = true) (hc : cells + 1 ≤ R.cells) (hs : slots + n ≤ R.slots)
    (hd : decode cb pc = .ok (.new i, 3)) (hp : pc + 3 = pc') (k : ∀ T' h' a, own_A l Z own cb ml n0 p e R s m args below meth c T' h' locs (cells + 1) (slots + n) → Ext h h' → h.size = a → n0 ≤ a → Exa Z h' a C → (∀ {O nm d : String} {ty : FieldType}, Laid Z a0 C O nm d → parseFieldDescriptor d = some ty → Fld Z h' a O nm d (defaultValue ty)) → own_E p e below G (T'.setTop (mkF m pc' Ls (.ref a :: S)))) : own_E p e below G (T.setTop (mkF m pc Ls S)) := by
  obtain ⟨X, hx, hZ, hby, hml, hown, eT, N, hsz, hlk⟩ := X
  subst hp
  obtain ⟨T', h', X', eT', E', A', D', -, stp⟩ := newO X hx hZ hown w1 w2 w3 eT (g := mkF m pc Ls S) rfl (hb hby hd) hc hs
  exact own_go stp (k _ _ _ ⟨X', hx, hZ, hby, hml, hown, eT', N, Nat.le_trans hsz E'.1, hlk⟩ E' rfl hsz A' D')
/-! arrays -/
def own_V (Z : State) (h : Heap) (a : Addr) (ty : FieldType) (z : Int32) (xs : List Int32) : Prop := ∃ k, Arv Z h a k ty z (xs.map Value.int) (.int 0) ∧ xs.length = z.toNatClampNeg
def own_W (Z : State) (h : Heap) (a : Addr) (z : Int32) (xs : List Int64) : Prop := ∃ k, Arv Z h a k .long z (xs.map Value.long) (.long 0) ∧ xs.length = z.toNatClampNeg
theorem own_V.ext {a : Addr} {ty : FieldType} {z : Int32} {xs : List Int32} (V : own_V Z h a ty z xs) (E : Ext h h') : own_V Z h' a ty z xs := by obtain ⟨k, A, q⟩ := V; exact ⟨k, A.ext E, q⟩
theorem own_W.ext {a : Addr} {z : Int32} {xs : List Int64} (V : own_W Z h a z xs) (E : Ext h h') : own_W Z h' a z xs := by obtain ⟨k, A, q⟩ := V; exact ⟨k, A.ext E, q⟩
theorem own_V.other {a b : Addr} {ty : FieldType} {z : Int32} {xs : List Int32} {sl : Nat} {v : Value} (V : own_V Z h a ty z xs) (W : Wr h h' b sl v) (q : a ≠ b) : own_V Z h' a ty z xs := by obtain ⟨k, A, r⟩ := V; exact ⟨k, A.other W q, r⟩
theorem own_W.other {a b : Addr} {z : Int32} {xs : List Int64} {sl : Nat} {v : Value} (V : own_W Z h a z xs) (W : Wr h h' b sl v) (q : a ≠ b) : own_W Z h' a z xs := by obtain ⟨k, A, r⟩ := V; exact ⟨k, A.other W q, r⟩
theorem own_V.keep {a : Addr} {ty : FieldType} {z : Int32} {xs : List Int32} {ws : List Addr} (V : own_V Z h a ty z xs) (K : Keep h h' ws) (q : a ∉ ws) : own_V Z h' a ty z xs := by obtain ⟨k, A, r⟩ := V; exact ⟨k, A.keep K q, r⟩
theorem own_W.keep {a : Addr} {z : Int32} {xs : List Int64} {ws : List Addr} (V : own_W Z h a z xs) (K : Keep h h' ws) (q : a ∉ ws) : own_W Z h' a z xs := by obtain ⟨k, A, r⟩ := V; exact ⟨k, A.keep K q, r⟩
theorem own_V.lt {a : Addr} {ty : FieldType} {z : Int32} {xs : List Int32} (V : own_V Z h a ty z xs) : a < h.size := by obtain ⟨k, A, r⟩ := V; exact A.lt
theorem own_W.lt {a : Addr} {z : Int32} {xs : List Int64} (V : own_W Z h a z xs) : a < h.size := by obtain ⟨k, A, r⟩ := V; exact A.lt
theorem own_V.len {a : Addr} {ty : FieldType} {z : Int32} {xs : List Int32} (V : own_V Z h a ty z xs) : xs.length = z.toNatClampNeg := by obtain ⟨k, A, r⟩ := V; exact r
theorem own_W.len {a : Addr} {z : Int32} {xs : List Int64} (V : own_W Z h a z xs) : xs.length = z.toNatClampNeg := by obtain ⟨k, A, r⟩ := V; exact r
theorem own_V.cast {a : Addr} {ty : FieldType} {z : Int32} {xs ys : List Int32} (V : own_V Z h a ty z xs) (q : xs = ys) : own_V Z h a ty z ys := q ▸ V
theorem own_W.cast {a : Addr} {z : Int32} {xs ys : List Int64} (V : own_W Z h a z xs) (q : xs = ys) : own_W Z h a z ys := q ▸ V
theorem own_cast (X : own_A l Z own cb ml n0 p e R s m args below meth c T h locs cells slots) {i : Nat} {a : Addr} {C : String} (w1 : (Jvm.Cond.classLink own i C).before a0 Z = true) (I : Ins Z h a C true)
    (hd : decode cb pc = .ok (.checkcast i, 3)) (hp : pc + 3 = pc') (k : ∀ T', own_A l Z own cb ml n0 p e R s m args below meth c T' h locs cells slots → own_E p e below G (T'.setTop (mkF m pc' Ls (.ref a :: S)))) : own_E p e below G (T.setTop (mkF m pc Ls (.ref a :: S))) := by
  obtain ⟨X, hx, hZ, hby, hml, hown, eT, N, hsz, hlk⟩ := X
  subst hp
  obtain ⟨T', X', eT', stp⟩ := castY X hx hZ hown w1 eT I (g := mkF m pc Ls (.ref a :: S)) rfl rfl (hb hby hd)
  exact own_go stp (k _ ⟨X', hx, hZ, hby, hml, hown, eT', N, hsz, hlk⟩)
theorem own_V.nn {a : Addr} {ty : FieldType} {z : Int32} {xs : List Int32} (V : own_V Z h a ty z xs) : ¬ z < 0 := by obtain ⟨k, ⟨cl, A, q1, q2, q3, r⟩, r'⟩ := V; exact q3
theorem own_idx {j z : Int32} {n : Nat} (q : n = z.toNatClampNeg) (h0 : ¬ j < 0) (h1 : j < z) : j.toNatClampNeg < n := by
  subst q
  rw [Int32.lt_iff_toInt_lt] at h0 h1
  have e0 : (0 : Int32).toInt = 0 := rfl
  simp only [Int32.toNatClampNeg]; omega
theorem own_mapI (xs : List Int32) (i : Nat) : (xs.map Value.int).getD i (.int 0) = .int (xs.getD i 0) := by
  simp only [List.getD_eq_getElem?_getD, List.getElem?_map]; cases xs[i]? <;> rfl
theorem own_mapL (xs : List Int64) (i : Nat) : (xs.map Value.long).getD i (.long 0) = .long (xs.getD i 0) := by
  simp only [List.getD_eq_getElem?_getD, List.getElem?_map]; cases xs[i]? <;> rfl
theorem own_newV (X : own_A l Z own cb ml n0 p e R s m args below meth c T h locs cells slots) {aty : ArrayType} {ty : FieldType} {n : Int32} (hty : newarray.typeOf aty = ty) (hdv : defaultValue ty = .int 0) (w : (Jvm.Cond.arrayClass ty).before a0 Z = true) (hn : ¬ n < 0) (cap : Nat) (hcap : n.toNatClampNeg ≤ cap) (hb8 : cap * 8 ≤ 536870912) (hc : cells + 1 ≤ R.cells) (hs : slots + cap ≤ R.slots)
    (hd : decode cb pc = .ok (.newarray aty, 2)) (hp : pc + 2 = pc') (k : ∀ T' h' a, own_A l Z own cb ml n0 p e R s m args below meth c T' h' locs (cells + 1) (slots + cap) → Ext h h' → h.size = a → n0 ≤ a → own_V Z h' a ty n (List.replicate n.toNatClampNeg 0) → own_E p e below G (T'.setTop (mkF m pc' Ls (.ref a :: S)))) : own_E p e below G (T.setTop (mkF m pc Ls (.int n :: S))) := by
  obtain ⟨X, hx, hZ, hby, hml, hown, eT, N, hsz, hlk⟩ := X
  subst hp; subst hty
  obtain ⟨T', h', cA, X', eT', E', A', stp⟩ := newP X hx hZ w eT (g := mkF m pc Ls (.int n :: S)) rfl (hb hby hd) rfl hn (cap := cap) hcap hb8 hc hs
  refine own_go stp (k _ _ _ ⟨X', hx, hZ, hby, hml, hown, eT', N, Nat.le_trans hsz E'.1, hlk⟩ E' rfl hsz ⟨cA, ?_, by simp⟩)
  have V := Arv.new A' hn
  rw [hdv] at V
  refine V.pad fun i => ?_
  rw [List.map_replicate]
  exact pad_rep [] (.int 0) n.toNatClampNeg i
theorem own_newW (X : own_A l Z own cb ml n0 p e R s m args below meth c T h locs cells slots) {n : Int32} (w : (Jvm.Cond.arrayClass .long).before a0 Z = true) (hn : ¬ n < 0) (cap : Nat) (hcap : n.toNatClampNeg ≤ cap) (hb8 : cap * 8 ≤ 536870912) (hc : cells + 1 ≤ R.cells) (hs : slots + cap ≤ R.slots)
    (hd : decode cb pc = .ok (.newarray .long, 2)) (hp : pc + 2 = pc') (k : ∀ T' h' a, own_A l Z own cb ml n0 p e R s m args below meth c T' h' locs (cells + 1) (slots + cap) → Ext h h' → h.size = a → n0 ≤ a → own_W Z h' a n (List.replicate n.toNatClampNeg 0) → own_E p e below G (T'.setTop (mkF m pc' Ls (.ref a :: S)))) : own_E p e below G (T.setTop (mkF m pc Ls (.int n :: S))) := by
  obtain ⟨X, hx, hZ, hby, hml, hown, eT, N, hsz, hlk⟩ := X
  subst hp
  obtain ⟨T', h', cA, X', eT', E', A', stp⟩ := newP X hx hZ (aty := .long) w eT (g := mkF m pc Ls (.int n :: S)) rfl (hb hby hd) rfl hn (cap := cap) hcap hb8 hc hs
  refine own_go stp (k _ _ _ ⟨X', hx, hZ, hby, hml, hown, eT', N, Nat.le_trans hsz E'.1, hlk⟩ E' rfl hsz ⟨cA, ?_, by simp⟩)
  have V := Arv.new A' hn
  refine V.pad fun i => ?_
  rw [List.map_replicate]
  exact pad_rep [] (.long 0) n.toNatClampNeg i
theorem own_bastore (X : own_A l Z own cb ml n0 p e R s m args below meth c T h locs cells slots) {a : Addr} {z j x y : Int32} {xs : List Int32} (V : own_V Z h a .byte z xs) (hg : n0 ≤ a) (hy : nar .byte x = y) (i : Nat) (hj : j.toNatClampNeg = i) (h0 : ¬ j < 0) (h1 : j < z)
    (hd : decode cb pc = .ok (.bastore, 1)) (hp : pc + 1 = pc') (k : ∀ T' h' locs', own_A l Z own cb ml n0 p e R s m args below meth c T' h' locs' cells slots → Wr h h' a j.toNatClampNeg (.int y) → own_V Z h' a .byte z (xs.set i y) → own_E p e below G (T'.setTop (mkF m pc' Ls S))) : own_E p e below G (T.setTop (mkF m pc Ls (.int x :: .int j :: .ref a :: S))) := by
  obtain ⟨X, hx, hZ, hby, hml, hown, eT, N, hsz, hlk⟩ := X
  obtain ⟨kc, ⟨cl, A, q1, q2, q3, H, F⟩, hlen⟩ := V
  subst hp; subst hy
  obtain ⟨T', h', X', eT', W, stp⟩ := stB X hx hZ eT A (j := j) (x := x) (inb_of q2 ⟨h0, h1⟩) (g := mkF m pc Ls (.int x :: .int j :: .ref a :: S)) rfl rfl (hb hby hd)
  refine own_go stp (k _ _ _ ⟨X', hx, hZ, hby, hml, hown, eT', Fr.snoc X' N hg, by rw [W.size]; exact hsz, hlk⟩ W ⟨kc, ?_, by rw [List.length_set]; exact hlen⟩)
  rw [List.map_set]
  exact Arv.set A q1 q2 q3 H F (fits_nar_byte _) W i hj (by rw [List.length_map, ← hj]; exact own_idx hlen h0 h1)
theorem own_iastore (X : own_A l Z own cb ml n0 p e R s m args below meth c T h locs cells slots) {a : Addr} {z j w x : Int32} {xs : List Int32} (V : own_V Z h a .int z xs) (hg : n0 ≤ a) (hy : w = x) (i : Nat) (hj : j.toNatClampNeg = i) (h0 : ¬ j < 0) (h1 : j < z)
    (hd : decode cb pc = .ok (.iastore, 1)) (hp : pc + 1 = pc') (k : ∀ T' h' locs', own_A l Z own cb ml n0 p e R s m args below meth c T' h' locs' cells slots → Wr h h' a j.toNatClampNeg (.int x) → own_V Z h' a .int z (xs.set i x) → own_E p e below G (T'.setTop (mkF m pc' Ls S))) : own_E p e below G (T.setTop (mkF m pc Ls (.int w :: .int j :: .ref a :: S))) := by
  obtain ⟨X, hx, hZ, hby, hml, hown, eT, N, hsz, hlk⟩ := X
  obtain ⟨kc, ⟨cl, A, q1, q2, q3, H, F⟩, hlen⟩ := V
  subst hp; subst hy
  obtain ⟨T', h', X', eT', W, stp⟩ := stI X hx hZ eT A (j := j) (x := w) (inb_of q2 ⟨h0, h1⟩) (g := mkF m pc Ls (.int w :: .int j :: .ref a :: S)) rfl rfl (hb hby hd)
  refine own_go stp (k _ _ _ ⟨X', hx, hZ, hby, hml, hown, eT', Fr.snoc X' N hg, by rw [W.size]; exact hsz, hlk⟩ W ⟨kc, ?_, by rw [List.length_set]; exact hlen⟩)
  rw [List.map_set]
  exact Arv.set A q1 q2 q3 H F rfl W i hj (by rw [List.length_map, ← hj]; exact own_idx hlen h0 h1)
theorem own_lastore (X : own_A l Z own cb ml n0 p e R s m args below meth c T h locs cells slots) {a : Addr} {z j : Int32} {w x : Int64} {xs : List Int64} (V : own_W Z h a z xs) (hg : n0 ≤ a) (hy : w = x) (i : Nat) (hj : j.toNatClampNeg = i) (h0 : ¬ j < 0) (h1 : j < z)
    (hd : decode cb pc = .ok (.lastore, 1)) (hp : pc + 1 = pc') (k : ∀ T' h' locs', own_A l Z own cb ml n0 p e R s m args below meth c T' h' locs' cells slots → Wr h h' a j.toNatClampNeg (.long x) → own_W Z h' a z (xs.set i x) → own_E p e below G (T'.setTop (mkF m pc' Ls S))) : own_E p e below G (T.setTop (mkF m pc Ls (.long w :: .int j :: .ref a :: S))) := by
  obtain ⟨X, hx, hZ, hby, hml, hown, eT, N, hsz, hlk⟩ := X
  obtain ⟨kc, ⟨cl, A, q1, q2, q3, H, F⟩, hlen⟩ := V
  subst hp; subst hy
  obtain ⟨T', h', X', eT', W, stp⟩ := stJ X hx hZ eT A (j := j) (x := w) (inb_of q2 ⟨h0, h1⟩) (g := mkF m pc Ls (.long w :: .int j :: .ref a :: S)) rfl rfl (hb hby hd)
  refine own_go stp (k _ _ _ ⟨X', hx, hZ, hby, hml, hown, eT', Fr.snoc X' N hg, by rw [W.size]; exact hsz, hlk⟩ W ⟨kc, ?_, by rw [List.length_set]; exact hlen⟩)
  rw [List.map_set]
  exact Arv.set A q1 q2 q3 H F rfl W i hj (by rw [List.length_map, ← hj]; exact own_idx hlen h0 h1)
theorem own_baload (X : own_A l Z own cb ml n0 p e R s m args below meth c T h locs cells slots) {a : Addr} {z j y : Int32} {xs : List Int32} (V : own_V Z h a .byte z xs) (h0 : ¬ j < 0) (h1 : j < z) (hy : xs.getD j.toNatClampNeg 0 = y) (hd : decode cb pc = .ok (.baload, 1)) (hp : pc + 1 = pc') (k : own_E p e below G (T.setTop (mkF m pc' Ls (.int y :: S)))) : own_E p e below G (T.setTop (mkF m pc Ls (.int j :: .ref a :: S))) := by
  obtain ⟨X, hx, hZ, hby, hml, hown, eT, N, hsz, hlk⟩ := X
  obtain ⟨kc, ⟨cl, A, q1, q2, q3, H, F⟩, hlen⟩ := V
  subst hp
  have hin := inb_of q2 (j := j) ⟨h0, h1⟩
  exact own_go (X.baloadBytes hx (j := j) (v := .int y) (by rw [eT]; exact A.1) (State.isArrayOf_alike hZ.alike A.2.1) A.2.2 hin (H.at hin (by rw [own_mapI, hy])) (g := mkF m pc Ls (.int j :: .ref a :: S)) rfl rfl (hb hby hd)) k
theorem own_iaload (X : own_A l Z own cb ml n0 p e R s m args below meth c T h locs cells slots) {a : Addr} {z j y : Int32} {xs : List Int32} (V : own_V Z h a .int z xs) (h0 : ¬ j < 0) (h1 : j < z) (hy : xs.getD j.toNatClampNeg 0 = y) (hd : decode cb pc = .ok (.iaload, 1)) (hp : pc + 1 = pc') (k : own_E p e below G (T.setTop (mkF m pc' Ls (.int y :: S)))) : own_E p e below G (T.setTop (mkF m pc Ls (.int j :: .ref a :: S))) := by
  obtain ⟨X, hx, hZ, hby, hml, hown, eT, N, hsz, hlk⟩ := X
  obtain ⟨kc, ⟨cl, A, q1, q2, q3, H, F⟩, hlen⟩ := V
  subst hp
  have hin := inb_of q2 (j := j) ⟨h0, h1⟩
  exact own_go (X.iaload hx (j := j) (v := .int y) (by rw [eT]; exact A.1) (State.isArrayOf_alike hZ.alike A.2.1) A.2.2 hin (H.at hin (by rw [own_mapI, hy])) (g := mkF m pc Ls (.int j :: .ref a :: S)) rfl rfl (hb hby hd)) k
theorem own_laload (X : own_A l Z own cb ml n0 p e R s m args below meth c T h locs cells slots) {a : Addr} {z j : Int32} {y : Int64} {xs : List Int64} (V : own_W Z h a z xs) (h0 : ¬ j < 0) (h1 : j < z) (hy : xs.getD j.toNatClampNeg 0 = y) (hd : decode cb pc = .ok (.laload, 1)) (hp : pc + 1 = pc') (k : own_E p e below G (T.setTop (mkF m pc' Ls (.long y :: S)))) : own_E p e below G (T.setTop (mkF m pc Ls (.int j :: .ref a :: S))) := by
  obtain ⟨X, hx, hZ, hby, hml, hown, eT, N, hsz, hlk⟩ := X
  obtain ⟨kc, ⟨cl, A, q1, q2, q3, H, F⟩, hlen⟩ := V
  subst hp
  have hin := inb_of q2 (j := j) ⟨h0, h1⟩
  exact own_go (X.laload hx (j := j) (v := .long y) (by rw [eT]; exact A.1) (State.isArrayOf_alike hZ.alike A.2.1) A.2.2 hin (H.at hin (by rw [own_mapL, hy])) (g := mkF m pc Ls (.int j :: .ref a :: S)) rfl rfl (hb hby hd)) k
theorem own_alen (X : own_A l Z own cb ml n0 p e R s m args below meth c T h locs cells slots) {a : Addr} {z : Int32} {ty : FieldType} {xs : List Int32} (V : own_V Z h a ty z xs) (hd : decode cb pc = .ok (.arraylength, 1)) (hp : pc + 1 = pc') (k : own_E p e below G (T.setTop (mkF m pc' Ls (.int z :: S)))) : own_E p e below G (T.setTop (mkF m pc Ls (.ref a :: S))) := by
  obtain ⟨X, hx, hZ, hby, hml, hown, eT, N, hsz, hlk⟩ := X
  obtain ⟨kc, ⟨cl, A, q1, q2, q3, H, F⟩, hlen⟩ := V
  subst hp
  refine own_go (X.arraylength hx (by rw [eT]; exact A.1) (State.isArrayOf_alike hZ.alike A.2.1) (g := mkF m pc Ls (.ref a :: S)) rfl rfl (hb hby hd)) ?_
  rw [len_of q2 q3]; exact k
end OwnKit
/-! OWN NUMBERS -/
theorem own_adL {a b : Int64} (h1 : -9223372036854775808 ≤ a.toInt + b.toInt) (h2 : a.toInt + b.toInt < 9223372036854775808) : (a + b).toInt = a.toInt + b.toInt := by
  rw [Int64.toInt_add]; exact Int.bmod_eq_of_le_mul_two (by omega) (by omega)
theorem own_sbL {a b : Int64} (h1 : -9223372036854775808 ≤ a.toInt - b.toInt) (h2 : a.toInt - b.toInt < 9223372036854775808) : (a - b).toInt = a.toInt - b.toInt := by
  rw [Int64.toInt_sub]; exact Int.bmod_eq_of_le_mul_two (by omega) (by omega)
theorem own_mlL {a b : Int64} (h1 : -9223372036854775808 ≤ a.toInt * b.toInt) (h2 : a.toInt * b.toInt < 9223372036854775808) : (a * b).toInt = a.toInt * b.toInt := by
  rw [Int64.toInt_mul]; exact Int.bmod_eq_of_le_mul_two (by omega) (by omega)
theorem own_ad {a b : Int32} (h1 : -2147483648 ≤ a.toInt + b.toInt) (h2 : a.toInt + b.toInt < 2147483648) : (a + b).toInt = a.toInt + b.toInt := by
  rw [Int32.toInt_add]; exact Int.bmod_eq_of_le_mul_two (by omega) (by omega)
theorem own_sb {a b : Int32} (h1 : -2147483648 ≤ a.toInt - b.toInt) (h2 : a.toInt - b.toInt < 2147483648) : (a - b).toInt = a.toInt - b.toInt := by
  rw [Int32.toInt_sub]; exact Int.bmod_eq_of_le_mul_two (by omega) (by omega)
theorem own_ml {a b : Int32} (h1 : -2147483648 ≤ a.toInt * b.toInt) (h2 : a.toInt * b.toInt < 2147483648) : (a * b).toInt = a.toInt * b.toInt := by
  rw [Int32.toInt_mul]; exact Int.bmod_eq_of_le_mul_two (by omega) (by omega)
theorem own_dvL {a b : Int64} (h0 : 0 ≤ a.toInt) (h1 : 0 < b.toInt) : (a / b).toInt = a.toInt / b.toInt := by
  rw [Int64.toInt_div, Int.tdiv_eq_ediv_of_nonneg h0]
  have := Int64.toInt_lt a
  have h2 : a.toInt / b.toInt ≤ a.toInt := Int.ediv_le_self _ h0
  have h3 : 0 ≤ a.toInt / b.toInt := Int.ediv_nonneg h0 (by omega)
  exact Int.bmod_eq_of_le_mul_two (by omega) (by omega)
theorem own_dv {a b : Int32} (h0 : 0 ≤ a.toInt) (h1 : 0 < b.toInt) : (a / b).toInt = a.toInt / b.toInt := by
  rw [Int32.toInt_div, Int.tdiv_eq_ediv_of_nonneg h0]
  have := Int32.toInt_lt a
  have h2 : a.toInt / b.toInt ≤ a.toInt := Int.ediv_le_self _ h0
  have h3 : 0 ≤ a.toInt / b.toInt := Int.ediv_nonneg h0 (by omega)
  exact Int.bmod_eq_of_le_mul_two (by omega) (by omega)
theorem own_rmL {a b : Int64} (h0 : 0 ≤ a.toInt) : (a % b).toInt = a.toInt % b.toInt := by
  rw [Int64.toInt_mod, Int.tmod_eq_emod_of_nonneg h0]
theorem own_rm {a b : Int32} (h0 : 0 ≤ a.toInt) : (a % b).toInt = a.toInt % b.toInt := by
  rw [Int32.toInt_mod, Int.tmod_eq_emod_of_nonneg h0]
theorem own_ltL {a b : Int64} : a < b ↔ a.toInt < b.toInt := Int64.lt_iff_toInt_lt
theorem own_lt {a b : Int32} : a < b ↔ a.toInt < b.toInt := Int32.lt_iff_toInt_lt
theorem own_eqL {a b : Int64} : a = b ↔ a.toInt = b.toInt := Int64.toInt_inj.symm
theorem own_eq {a b : Int32} : a = b ↔ a.toInt = b.toInt := Int32.toInt_inj.symm
theorem own_mkL {a b : Int64} {k : Nat} (hk : k < 64) (hb : b.toBitVec.toNat = 2 ^ k - 1) : (a &&& b).toInt = a.toInt % (2 ^ k : Nat) := by
  have e : (a &&& b).toBitVec.toNat = a.toBitVec.toNat % 2 ^ k := by rw [Int64.toBitVec_and, BitVec.toNat_and, hb, Nat.and_two_pow_sub_one_eq_mod]
  have hlt : a.toBitVec.toNat % 2 ^ k < 2 ^ 63 := Nat.lt_of_lt_of_le (Nat.mod_lt _ (Nat.two_pow_pos k)) (Nat.pow_le_pow_right (by decide) (by omega))
  have e2 : (a &&& b).toInt = ((a.toBitVec.toNat % 2 ^ k : Nat) : Int) := by
    show (a &&& b).toBitVec.toInt = _
    rw [BitVec.toInt_eq_toNat_cond, e, if_pos (by omega)]
  rw [e2]
  show _ = a.toBitVec.toInt % _
  rw [BitVec.toInt_eq_toNat_cond]
  have hd : ((2 ^ 64 : Nat) : Int) % ((2 ^ k : Nat) : Int) = 0 := by
    rw [← Int.natCast_emod, Nat.mod_eq_zero_of_dvd (Nat.pow_dvd_pow 2 (by omega))]; rfl
  split
  · rw [Int.natCast_emod]
  · rw [Int.sub_emod, hd, Int.sub_zero, Int.emod_emod_of_dvd _ (Int.dvd_refl _), Int.natCast_emod]
theorem own_mk {a b : Int32} {k : Nat} (hk : k < 32) (hb : b.toBitVec.toNat = 2 ^ k - 1) : (a &&& b).toInt = a.toInt % (2 ^ k : Nat) := by
  have e : (a &&& b).toBitVec.toNat = a.toBitVec.toNat % 2 ^ k := by rw [Int32.toBitVec_and, BitVec.toNat_and, hb, Nat.and_two_pow_sub_one_eq_mod]
  have hlt : a.toBitVec.toNat % 2 ^ k < 2 ^ 31 := Nat.lt_of_lt_of_le (Nat.mod_lt _ (Nat.two_pow_pos k)) (Nat.pow_le_pow_right (by decide) (by omega))
  have e2 : (a &&& b).toInt = ((a.toBitVec.toNat % 2 ^ k : Nat) : Int) := by
    show (a &&& b).toBitVec.toInt = _
    rw [BitVec.toInt_eq_toNat_cond, e, if_pos (by omega)]
  rw [e2]
  show _ = a.toBitVec.toInt % _
  rw [BitVec.toInt_eq_toNat_cond]
  have hd : ((2 ^ 32 : Nat) : Int) % ((2 ^ k : Nat) : Int) = 0 := by
    rw [← Int.natCast_emod, Nat.mod_eq_zero_of_dvd (Nat.pow_dvd_pow 2 (by omega))]; rfl
  split
  · rw [Int.natCast_emod]
  · rw [Int.sub_emod, hd, Int.sub_zero, Int.emod_emod_of_dvd _ (Int.dvd_refl _), Int.natCast_emod]
theorem own_AL {a b : Int64} {x y : Int} (ha : a.toInt = x) (hb : b.toInt = y) (h1 : -9223372036854775808 ≤ x + y) (h2 : x + y < 9223372036854775808) : (a + b).toInt = x + y := by subst ha hb; exact own_adL h1 h2
theorem own_SL {a b : Int64} {x y : Int} (ha : a.toInt = x) (hb : b.toInt = y) (h1 : -9223372036854775808 ≤ x - y) (h2 : x - y < 9223372036854775808) : (a - b).toInt = x - y := by subst ha hb; exact own_sbL h1 h2
theorem own_ML {a b : Int64} {x y : Int} (ha : a.toInt = x) (hb : b.toInt = y) (h1 : -9223372036854775808 ≤ x * y) (h2 : x * y < 9223372036854775808) : (a * b).toInt = x * y := by subst ha hb; exact own_mlL h1 h2
theorem own_DL {a b : Int64} {x y : Int} (ha : a.toInt = x) (hb : b.toInt = y) (h1 : 0 ≤ x) (h2 : 0 < y) : (a / b).toInt = x / y := by subst ha hb; exact own_dvL h1 h2
theorem own_RL {a b : Int64} {x y : Int} (ha : a.toInt = x) (hb : b.toInt = y) (h1 : 0 ≤ x) : (a % b).toInt = x % y := by subst ha hb; exact own_rmL h1
theorem own_AI {a b : Int32} {x y : Int} (ha : a.toInt = x) (hb : b.toInt = y) (h1 : -2147483648 ≤ x + y) (h2 : x + y < 2147483648) : (a + b).toInt = x + y := by subst ha hb; exact own_ad h1 h2
theorem own_SI {a b : Int32} {x y : Int} (ha : a.toInt = x) (hb : b.toInt = y) (h1 : -2147483648 ≤ x - y) (h2 : x - y < 2147483648) : (a - b).toInt = x - y := by subst ha hb; exact own_sb h1 h2
theorem own_MI {a b : Int32} {x y : Int} (ha : a.toInt = x) (hb : b.toInt = y) (h1 : -2147483648 ≤ x * y) (h2 : x * y < 2147483648) : (a * b).toInt = x * y := by subst ha hb; exact own_ml h1 h2
theorem own_DI {a b : Int32} {x y : Int} (ha : a.toInt = x) (hb : b.toInt = y) (h1 : 0 ≤ x) (h2 : 0 < y) : (a / b).toInt = x / y := by subst ha hb; exact own_dv h1 h2
theorem own_RI {a b : Int32} {x y : Int} (ha : a.toInt = x) (hb : b.toInt = y) (h1 : 0 ≤ x) : (a % b).toInt = x % y := by subst ha hb; exact own_rm h1
theorem own_pos {z : Int32} (h : ¬ z < 0) (h1 : ¬ z = 0) : (0 : Int32) < z := by
  have e0 : (0 : Int32).toInt = 0 := rfl
  rw [own_lt] at *; rw [own_eq] at h1; omega
theorem own_last {z : Int32} (h : (0 : Int32) < z) : ¬ z - 1 < 0 ∧ z - 1 < z := by
  have e0 : (0 : Int32).toInt = 0 := rfl
  have e1 : (1 : Int32).toInt = 1 := rfl
  have hl := Int32.toInt_lt z
  rw [own_lt] at h
  have a : (z - 1).toInt = z.toInt - 1 := own_SI rfl e1 (by omega) (by omega)
  rw [own_lt, own_lt]; omega
theorem own_gs {α : Type} (l : List α) (i j : Nat) (v d : α) (hi : i < l.length) : (l.set i v).getD j d = if i = j then v else l.getD j d := by
  simp only [List.getD_eq_getElem?_getD]
  by_cases h : i = j
  · subst h; rw [if_pos rfl, List.getElem?_set_self hi]; rfl
  · rw [if_neg h, List.getElem?_set_ne h]
theorem own_cl {n : Int32} {k : Int} (h : n.toInt = k) : n.toNatClampNeg = k.toNat := by subst h; rfl
theorem own_b8 {t : Int32} (h0 : -128 ≤ t.toInt) (h1 : t.toInt < 128) : t.toInt8.toInt32 = t := by
  rw [own_eq, Int8.toInt_toInt32, Int32.toInt_toInt8]
  exact Int.bmod_eq_of_le_mul_two (by omega) (by omega)
theorem own_i8 {t : Int32} {x : Int} (h : t.toInt = x) : (t.toInt8.toInt32).toInt = (x + 128) % 256 - 128 := by
  subst h
  rw [Int8.toInt_toInt32, Int32.toInt_toInt8, Int.bmod_def]
  split <;> omega
theorem own_shrI {a b : Int32} {x : Int} {k : Nat} (h : a.toInt = x) (hb : (b.toBitVec.smod (BitVec.ofNat 32 32)).toNat = k) : (a >>> b).toInt = x / (2 ^ k : Nat) := by
  subst h; subst hb
  show (a.toBitVec.sshiftRight' (b.toBitVec.smod (BitVec.ofNat 32 32))).toInt = _
  rw [BitVec.toInt_sshiftRight', Int.shiftRight_eq_div_pow]; rfl
theorem own_shlI {a b : Int32} {x : Int} {k : Nat} (h : a.toInt = x) (hb : (b.toBitVec.smod (BitVec.ofNat 32 32)).toNat = k) (h1 : -2147483648 ≤ x * (2 ^ k : Nat)) (h2 : x * (2 ^ k : Nat) < 2147483648) : (a <<< b).toInt = x * (2 ^ k : Nat) := by
  subst h; subst hb
  show (a.toBitVec <<< (b.toBitVec.smod (BitVec.ofNat 32 32))).toInt = a.toBitVec.toInt * _
  rw [BitVec.shiftLeft_eq', BitVec.toInt_shiftLeft, Nat.shiftLeft_eq, BitVec.toInt_eq_toNat_bmod]
  rw [show ((a.toBitVec.toNat * 2 ^ (b.toBitVec.smod (BitVec.ofNat 32 32)).toNat : Nat) : Int) = (a.toBitVec.toNat : Int) * ((2 ^ (b.toBitVec.smod (BitVec.ofNat 32 32)).toNat : Nat) : Int) from by simp]
  rw [← Int.bmod_mul_bmod]
  have e : ((a.toBitVec.toNat : Int).bmod (2 ^ 32)) = a.toInt := (BitVec.toInt_eq_toNat_bmod _).symm
  rw [e]
  exact Int.bmod_eq_of_le_mul_two (by omega) (by omega)
theorem own_orI {a b : Int32} {x y : Int} (k : Nat) (ha : a.toInt = x) (hb : b.toInt = y) (hk : k ≤ 31) (hx : x % (2 ^ k : Nat) = 0) (h0 : 0 ≤ y) (h1 : y < (2 ^ k : Nat)) (h2 : 0 ≤ x) : (a ||| b).toInt = x + y := by
  have la := a.toBitVec.isLt; have lb := b.toBitVec.isLt
  have na : (a.toBitVec.toNat : Int) = x := by
    have : a.toBitVec.toInt = x := ha
    rw [BitVec.toInt_eq_toNat_cond] at this; split at this <;> omega
  have nb : (b.toBitVec.toNat : Int) = y := by
    have : b.toBitVec.toInt = y := hb
    rw [BitVec.toInt_eq_toNat_cond] at this; split at this <;> omega
  have hm : a.toBitVec.toNat % 2 ^ k = 0 := by
    have : ((a.toBitVec.toNat % 2 ^ k : Nat) : Int) = 0 := by rw [Int.natCast_emod, na]; exact hx
    omega
  have hl : b.toBitVec.toNat < 2 ^ k := by omega
  have ho : a.toBitVec.toNat ||| b.toBitVec.toNat = a.toBitVec.toNat + b.toBitVec.toNat := by
    have hd : a.toBitVec.toNat = 2 ^ k * (a.toBitVec.toNat / 2 ^ k) := by
      have := Nat.div_add_mod a.toBitVec.toNat (2 ^ k); omega
    rw [hd, Nat.two_pow_add_eq_or_of_lt hl]
  have q : (a ||| b).toBitVec.toNat = a.toBitVec.toNat + b.toBitVec.toNat := by rw [Int32.toBitVec_or, BitVec.toNat_or, ho]
  have hA : a.toBitVec.toNat < 2 ^ 31 := by
    have : a.toBitVec.toInt = x := ha
    rw [BitVec.toInt_eq_toNat_cond] at this; split at this <;> omega
  have hB : b.toBitVec.toNat < 2 ^ 31 := by
    have : b.toBitVec.toInt = y := hb
    rw [BitVec.toInt_eq_toNat_cond] at this; split at this <;> omega
  have hS : a.toBitVec.toNat + b.toBitVec.toNat < 2 ^ 31 := by rw [← ho]; exact Nat.or_lt_two_pow hA hB
  show (a ||| b).toBitVec.toInt = _
  rw [BitVec.toInt_eq_toNat_cond, q, if_pos (by omega)]
  omega
theorem own_yes {c : Prop} [d : Decidable c] {a b r : Int32} (h : c) (h2 : a = r) : (if c then a else b) = r := (if_pos h).trans h2
theorem own_no {c : Prop} [d : Decidable c] {a b r : Int32} (h : ¬ c) (h2 : b = r) : (if c then a else b) = r := (if_neg h).trans h2
theorem own_d1_0 : decode prog_77_method_11_code 0 = .ok (.iload_n 2, 1) := by decide +kernel
theorem own_d1_1 : decode prog_77_method_11_code 1 = .ok (.iconst 1, 1) := by decide +kernel
theorem own_d1_2 : decode prog_77_method_11_code 2 = .ok (.if_icmp .ne 11, 3) := by decide +kernel
theorem own_d1_5 : decode prog_77_method_11_code 5 = .ok (.aload_n 0, 1) := by decide +kernel
theorem own_d1_6 : decode prog_77_method_11_code 6 = .ok (.iload_n 1, 1) := by decide +kernel
theorem own_d1_7 : decode prog_77_method_11_code 7 = .ok (.baload, 1) := by decide +kernel
theorem own_d1_8 : decode prog_77_method_11_code 8 = .ok (.sipush 255, 3) := by decide +kernel
theorem own_d1_11 : decode prog_77_method_11_code 11 = .ok (.iand, 1) := by decide +kernel
theorem own_d1_12 : decode prog_77_method_11_code 12 = .ok (.ireturn, 1) := by decide +kernel
theorem own_d1_13 : decode prog_77_method_11_code 13 = .ok (.aload_n 0, 1) := by decide +kernel
theorem own_d1_14 : decode prog_77_method_11_code 14 = .ok (.iload_n 1, 1) := by decide +kernel
theorem own_d1_15 : decode prog_77_method_11_code 15 = .ok (.baload, 1) := by decide +kernel
theorem own_d1_16 : decode prog_77_method_11_code 16 = .ok (.sipush 255, 3) := by decide +kernel
theorem own_d1_19 : decode prog_77_method_11_code 19 = .ok (.iload_n 2, 1) := by decide +kernel
theorem own_d1_20 : decode prog_77_method_11_code 20 = .ok (.iconst 1, 1) := by decide +kernel
theorem own_d1_21 : decode prog_77_method_11_code 21 = .ok (.iadd, 1) := by decide +kernel
theorem own_d1_22 : decode prog_77_method_11_code 22 = .ok (.ishr, 1) := by decide +kernel
theorem own_d1_23 : decode prog_77_method_11_code 23 = .ok (.iand, 1) := by decide +kernel
theorem own_d1_24 : decode prog_77_method_11_code 24 = .ok (.istore_n 3, 1) := by decide +kernel
theorem own_d1_25 : decode prog_77_method_11_code 25 = .ok (.iconst 1, 1) := by decide +kernel
theorem own_d1_26 : decode prog_77_method_11_code 26 = .ok (.istore 4, 2) := by decide +kernel
theorem own_d1_28 : decode prog_77_method_11_code 28 = .ok (.iload 4, 2) := by decide +kernel
theorem own_d1_30 : decode prog_77_method_11_code 30 = .ok (.iload_n 2, 1) := by decide +kernel
theorem own_d1_31 : decode prog_77_method_11_code 31 = .ok (.if_icmp .ge 24, 3) := by decide +kernel
theorem own_d1_34 : decode prog_77_method_11_code 34 = .ok (.iload_n 3, 1) := by decide +kernel
theorem own_d1_35 : decode prog_77_method_11_code 35 = .ok (.bipush 6, 2) := by decide +kernel
theorem own_d1_37 : decode prog_77_method_11_code 37 = .ok (.ishl, 1) := by decide +kernel
theorem own_d1_38 : decode prog_77_method_11_code 38 = .ok (.aload_n 0, 1) := by decide +kernel
theorem own_d1_39 : decode prog_77_method_11_code 39 = .ok (.iload_n 1, 1) := by decide +kernel
theorem own_d1_40 : decode prog_77_method_11_code 40 = .ok (.iload 4, 2) := by decide +kernel
theorem own_d1_42 : decode prog_77_method_11_code 42 = .ok (.iadd, 1) := by decide +kernel
theorem own_d1_43 : decode prog_77_method_11_code 43 = .ok (.baload, 1) := by decide +kernel
theorem own_d1_44 : decode prog_77_method_11_code 44 = .ok (.bipush 63, 2) := by decide +kernel
theorem own_d1_46 : decode prog_77_method_11_code 46 = .ok (.iand, 1) := by decide +kernel
theorem own_d1_47 : decode prog_77_method_11_code 47 = .ok (.ior, 1) := by decide +kernel
theorem own_d1_48 : decode prog_77_method_11_code 48 = .ok (.istore_n 3, 1) := by decide +kernel
theorem own_d1_49 : decode prog_77_method_11_code 49 = .ok (.iinc 4 1, 3) := by decide +kernel
theorem own_d1_52 : decode prog_77_method_11_code 52 = .ok (.goto (-24), 3) := by decide +kernel
theorem own_d1_55 : decode prog_77_method_11_code 55 = .ok (.iload_n 3, 1) := by decide +kernel
theorem own_d1_56 : decode prog_77_method_11_code 56 = .ok (.ireturn, 1) := by decide +kernel
theorem own_ef1 (a1 : Addr) (p2 : Int32) (p3 : Int32) (m : MethodId) : entryFrame m #[(.ref a1), (.int p2), (.int p3)] 5 = mkF m 0 #[.val (.ref a1), .val (.int p2), .val (.int p3), .unset, .unset] [] := by first | (simp [entryFrame, mkF, argsToLocals, Value.category]; done) | rfl
theorem own_pf1 : plainFor (⟨"com/example/girolog/girolog/files/TextDecoder", "codePoint", "([BII)I"⟩ : MethodName) = true := by first | exact plainFor_of_name (by first | (simp [plainName, overriddenIn]; done) | decide +kernel) | decide +kernel
def own_v1_24 (xs_a1 : List Int32) (p2 : Int32) (p3 : Int32) : Int32 := ((List.getD xs_a1 (p2.toNatClampNeg) 0) &&& ((255 : Int32) >>> ((p3 + (1 : Int32)) &&& 31)))
def own_v1_48 (xs_a1 : List Int32) (p2 : Int32) (p3 : Int32) : Int32 := (((own_v1_24 xs_a1 p2 p3) <<< (6 : Int32)) ||| ((List.getD xs_a1 ((p2 + (1 : Int32)).toNatClampNeg) 0) &&& (63 : Int32)))
def own_v1_48_1 (xs_a1 : List Int32) (p2 : Int32) (p3 : Int32) : Int32 := (((own_v1_48 xs_a1 p2 p3) <<< (6 : Int32)) ||| ((List.getD xs_a1 ((p2 + (2 : Int32)).toNatClampNeg) 0) &&& (63 : Int32)))
def own_v1_48_2 (xs_a1 : List Int32) (p2 : Int32) (p3 : Int32) : Int32 := (((own_v1_48_1 xs_a1 p2 p3) <<< (6 : Int32)) ||| ((List.getD xs_a1 ((p2 + (3 : Int32)).toNatClampNeg) 0) &&& (63 : Int32)))
def own_F1 (xs_a1 : List Int32) (p2 : Int32) (p3 : Int32) : Int32 := (if p3 = (1 : Int32) then ((List.getD xs_a1 (p2.toNatClampNeg) 0) &&& (255 : Int32)) else (if (1 : Int32) < p3 then (if (2 : Int32) < p3 then (if (3 : Int32) < p3 then (own_v1_48_2 xs_a1 p2 p3) else (own_v1_48_1 xs_a1 p2 p3)) else (own_v1_48 xs_a1 p2 p3)) else (own_v1_24 xs_a1 p2 p3)))
-- LEMMAS
theorem own_at {p k : Int32} (hp : ¬ p < (0 : Int32)) (hq : ¬ (3 : Int32) < p) (k0 : 0 ≤ k.toInt) (k1 : k.toInt ≤ 4) : (p + k).toInt = p.toInt + k.toInt ∧ ¬ p + k < 0 ∧ p + k < 8 := by
  have e0 : (0 : Int32).toInt = 0 := rfl
  have e3 : (3 : Int32).toInt = 3 := rfl
  have e6 : (8 : Int32).toInt = 8 := rfl
  simp only [own_lt, e0, e3, e6] at *
  have a : (p + k).toInt = p.toInt + k.toInt := own_AI rfl rfl (by omega) (by omega)
  exact ⟨a, by omega, by omega⟩
theorem own_at0 {p : Int32} (hq : ¬ (3 : Int32) < p) : p < 8 := by
  have e3 : (3 : Int32).toInt = 3 := rfl
  have e6 : (8 : Int32).toInt = 8 := rfl
  simp only [own_lt, e3, e6] at *; omega
-- END LEMMAS
set_option maxRecDepth 65536 in
set_option maxHeartbeats 40000000 in
theorem own_rm1 (l : Launch) (Z : State) (a0 : Array Value) (hw : ∀ d ∈ tables_1, d.before a0 Z = true) (a1 : Addr) (xs_a1 : List Int32) (p2 : Int32) (p3 : Int32) (h0 : Heap) (n0 : Nat) (Z0 : n0 ≤ h0.size) (V_a1 : own_V Z h0 a1 .byte (8 : Int32) xs_a1) (hp : ¬ p2 < (0 : Int32)) (hq : ¬ (3 : Int32) < p2) (hl : ¬ (4 : Int32) < p3) :
    own_Con l Z (⟨"com/example/girolog/girolog/files/TextDecoder", "codePoint", "([BII)I"⟩ : MethodName) prog_77_method_11_code 5 (some .int) ({ frames := 0, cells := 0, slots := 0, locals := 0 } : Room) #[(.ref a1), (.int p2), (.int p3)] h0 n0 (fun v h => v = some (.int (own_F1 xs_a1 p2 p3)) ∧ h = h0) := by
  refine own_enter own_pf1 Z0 (own_ef1 a1 p2 p3) ?_
  intro p e s m below meth c T0 X0 hret hnm
  refine own_iloadN X0 own_d1_0 (pc' := 1) rfl (v := p3) rfl ?_
  refine own_iconst X0 own_d1_1 (pc' := 2) rfl (z := (1 : Int32)) rfl ?_
  by_cases hc1 : p3 = (1 : Int32)
  · refine own_icmpN X0 own_d1_2 (teq hc1).2 (pc' := 5) rfl ?_
    refine own_aloadN X0 own_d1_5 (pc' := 6) rfl (v := (.ref a1)) rfl rfl ?_
    refine own_iloadN X0 own_d1_6 (pc' := 7) rfl (v := p2) rfl ?_
    refine own_baload X0 V_a1 hp (own_at0 hq) (y := (List.getD xs_a1 (p2.toNatClampNeg) 0)) rfl own_d1_7 (pc' := 8) rfl ?_
    refine own_sipush X0 own_d1_8 (pc' := 11) rfl (z := (255 : Int32)) rfl ?_
    refine own_iand X0 own_d1_11 (pc' := 12) rfl (z := ((List.getD xs_a1 (p2.toNatClampNeg) 0) &&& (255 : Int32))) rfl ?_
    refine own_iret X0 (t := .int) (w := ((List.getD xs_a1 (p2.toNatClampNeg) 0) &&& (255 : Int32))) hret (by simp) own_d1_12 rfl (by decide) (by decide) ?_
    exact ⟨congrArg (fun t => some (Value.int t)) (show ((List.getD xs_a1 (p2.toNatClampNeg) 0) &&& (255 : Int32)) = own_F1 xs_a1 p2 p3 from (by rw [own_F1, if_pos hc1])), rfl⟩
  · refine own_icmpY X0 own_d1_2 (feq hc1).2 (by decide) (pc' := 13) rfl ?_
    refine own_aloadN X0 own_d1_13 (pc' := 14) rfl (v := (.ref a1)) rfl rfl ?_
    refine own_iloadN X0 own_d1_14 (pc' := 15) rfl (v := p2) rfl ?_
    refine own_baload X0 V_a1 hp (own_at0 hq) (y := (List.getD xs_a1 (p2.toNatClampNeg) 0)) rfl own_d1_15 (pc' := 16) rfl ?_
    refine own_sipush X0 own_d1_16 (pc' := 19) rfl (z := (255 : Int32)) rfl ?_
    refine own_iloadN X0 own_d1_19 (pc' := 20) rfl (v := p3) rfl ?_
    refine own_iconst X0 own_d1_20 (pc' := 21) rfl (z := (1 : Int32)) rfl ?_
    refine own_iadd X0 own_d1_21 (pc' := 22) rfl (z := (p3 + (1 : Int32))) rfl ?_
    refine own_ishr X0 own_d1_22 (pc' := 23) rfl (z := ((255 : Int32) >>> ((p3 + (1 : Int32)) &&& 31))) rfl ?_
    refine own_iand X0 own_d1_23 (pc' := 24) rfl (z := ((List.getD xs_a1 (p2.toNatClampNeg) 0) &&& ((255 : Int32) >>> ((p3 + (1 : Int32)) &&& 31)))) rfl ?_
    refine own_istoreN X0 own_d1_24 (pc' := 25) rfl (y := (own_v1_24 xs_a1 p2 p3)) rfl (Ls' := #[.val (.ref a1), .val (.int p2), .val (.int p3), .val (.int (own_v1_24 xs_a1 p2 p3)), .unset]) rfl ?_
    refine own_iconst X0 own_d1_25 (pc' := 26) rfl (z := (1 : Int32)) rfl ?_
    refine own_istore X0 own_d1_26 (pc' := 28) rfl (y := (1 : Int32)) rfl (Ls' := #[.val (.ref a1), .val (.int p2), .val (.int p3), .val (.int (own_v1_24 xs_a1 p2 p3)), .val (.int (1 : Int32))]) rfl ?_
    refine own_iload X0 own_d1_28 (pc' := 30) rfl (v := (1 : Int32)) rfl ?_
    refine own_iloadN X0 own_d1_30 (pc' := 31) rfl (v := p3) rfl ?_
    by_cases hc2 : (1 : Int32) < p3
    · refine own_icmpN X0 own_d1_31 (tlt hc2).2.1 (pc' := 34) rfl ?_
      refine own_iloadN X0 own_d1_34 (pc' := 35) rfl (v := (own_v1_24 xs_a1 p2 p3)) rfl ?_
      refine own_bipush X0 own_d1_35 (pc' := 37) rfl (z := (6 : Int32)) rfl ?_
      refine own_ishl X0 own_d1_37 (pc' := 38) rfl (z := ((own_v1_24 xs_a1 p2 p3) <<< (6 : Int32))) rfl ?_
      refine own_aloadN X0 own_d1_38 (pc' := 39) rfl (v := (.ref a1)) rfl rfl ?_
      refine own_iloadN X0 own_d1_39 (pc' := 40) rfl (v := p2) rfl ?_
      refine own_iload X0 own_d1_40 (pc' := 42) rfl (v := (1 : Int32)) rfl ?_
      refine own_iadd X0 own_d1_42 (pc' := 43) rfl (z := (p2 + (1 : Int32))) rfl ?_
      refine own_baload X0 V_a1 (own_at hp hq (by decide) (by decide)).2.1 (own_at hp hq (by decide) (by decide)).2.2 (y := (List.getD xs_a1 ((p2 + (1 : Int32)).toNatClampNeg) 0)) rfl own_d1_43 (pc' := 44) rfl ?_
      refine own_bipush X0 own_d1_44 (pc' := 46) rfl (z := (63 : Int32)) rfl ?_
      refine own_iand X0 own_d1_46 (pc' := 47) rfl (z := ((List.getD xs_a1 ((p2 + (1 : Int32)).toNatClampNeg) 0) &&& (63 : Int32))) rfl ?_
      refine own_ior X0 own_d1_47 (pc' := 48) rfl (z := (((own_v1_24 xs_a1 p2 p3) <<< (6 : Int32)) ||| ((List.getD xs_a1 ((p2 + (1 : Int32)).toNatClampNeg) 0) &&& (63 : Int32)))) rfl ?_
      refine own_istoreN X0 own_d1_48 (pc' := 49) rfl (y := (own_v1_48 xs_a1 p2 p3)) rfl (Ls' := #[.val (.ref a1), .val (.int p2), .val (.int p3), .val (.int (own_v1_48 xs_a1 p2 p3)), .val (.int (1 : Int32))]) rfl ?_
      refine own_iinc X0 own_d1_49 (pc' := 52) rfl (x := (1 : Int32)) rfl (z := (2 : Int32)) (by decide) (Ls' := #[.val (.ref a1), .val (.int p2), .val (.int p3), .val (.int (own_v1_48 xs_a1 p2 p3)), .val (.int (2 : Int32))]) rfl ?_
      refine own_goto X0 own_d1_52 (by decide) (pc' := 28) rfl ?_
      refine own_iload X0 own_d1_28 (pc' := 30) rfl (v := (2 : Int32)) rfl ?_
      refine own_iloadN X0 own_d1_30 (pc' := 31) rfl (v := p3) rfl ?_
      by_cases hc3 : (2 : Int32) < p3
      · refine own_icmpN X0 own_d1_31 (tlt hc3).2.1 (pc' := 34) rfl ?_
        refine own_iloadN X0 own_d1_34 (pc' := 35) rfl (v := (own_v1_48 xs_a1 p2 p3)) rfl ?_
        refine own_bipush X0 own_d1_35 (pc' := 37) rfl (z := (6 : Int32)) rfl ?_
        refine own_ishl X0 own_d1_37 (pc' := 38) rfl (z := ((own_v1_48 xs_a1 p2 p3) <<< (6 : Int32))) rfl ?_
        refine own_aloadN X0 own_d1_38 (pc' := 39) rfl (v := (.ref a1)) rfl rfl ?_
        refine own_iloadN X0 own_d1_39 (pc' := 40) rfl (v := p2) rfl ?_
        refine own_iload X0 own_d1_40 (pc' := 42) rfl (v := (2 : Int32)) rfl ?_
        refine own_iadd X0 own_d1_42 (pc' := 43) rfl (z := (p2 + (2 : Int32))) rfl ?_
        refine own_baload X0 V_a1 (own_at hp hq (by decide) (by decide)).2.1 (own_at hp hq (by decide) (by decide)).2.2 (y := (List.getD xs_a1 ((p2 + (2 : Int32)).toNatClampNeg) 0)) rfl own_d1_43 (pc' := 44) rfl ?_
        refine own_bipush X0 own_d1_44 (pc' := 46) rfl (z := (63 : Int32)) rfl ?_
        refine own_iand X0 own_d1_46 (pc' := 47) rfl (z := ((List.getD xs_a1 ((p2 + (2 : Int32)).toNatClampNeg) 0) &&& (63 : Int32))) rfl ?_
        refine own_ior X0 own_d1_47 (pc' := 48) rfl (z := (((own_v1_48 xs_a1 p2 p3) <<< (6 : Int32)) ||| ((List.getD xs_a1 ((p2 + (2 : Int32)).toNatClampNeg) 0) &&& (63 : Int32)))) rfl ?_
        refine own_istoreN X0 own_d1_48 (pc' := 49) rfl (y := (own_v1_48_1 xs_a1 p2 p3)) rfl (Ls' := #[.val (.ref a1), .val (.int p2), .val (.int p3), .val (.int (own_v1_48_1 xs_a1 p2 p3)), .val (.int (2 : Int32))]) rfl ?_
        refine own_iinc X0 own_d1_49 (pc' := 52) rfl (x := (2 : Int32)) rfl (z := (3 : Int32)) (by decide) (Ls' := #[.val (.ref a1), .val (.int p2), .val (.int p3), .val (.int (own_v1_48_1 xs_a1 p2 p3)), .val (.int (3 : Int32))]) rfl ?_
        refine own_goto X0 own_d1_52 (by decide) (pc' := 28) rfl ?_
        refine own_iload X0 own_d1_28 (pc' := 30) rfl (v := (3 : Int32)) rfl ?_
        refine own_iloadN X0 own_d1_30 (pc' := 31) rfl (v := p3) rfl ?_
        by_cases hc4 : (3 : Int32) < p3
        · refine own_icmpN X0 own_d1_31 (tlt hc4).2.1 (pc' := 34) rfl ?_
          refine own_iloadN X0 own_d1_34 (pc' := 35) rfl (v := (own_v1_48_1 xs_a1 p2 p3)) rfl ?_
          refine own_bipush X0 own_d1_35 (pc' := 37) rfl (z := (6 : Int32)) rfl ?_
          refine own_ishl X0 own_d1_37 (pc' := 38) rfl (z := ((own_v1_48_1 xs_a1 p2 p3) <<< (6 : Int32))) rfl ?_
          refine own_aloadN X0 own_d1_38 (pc' := 39) rfl (v := (.ref a1)) rfl rfl ?_
          refine own_iloadN X0 own_d1_39 (pc' := 40) rfl (v := p2) rfl ?_
          refine own_iload X0 own_d1_40 (pc' := 42) rfl (v := (3 : Int32)) rfl ?_
          refine own_iadd X0 own_d1_42 (pc' := 43) rfl (z := (p2 + (3 : Int32))) rfl ?_
          refine own_baload X0 V_a1 (own_at hp hq (by decide) (by decide)).2.1 (own_at hp hq (by decide) (by decide)).2.2 (y := (List.getD xs_a1 ((p2 + (3 : Int32)).toNatClampNeg) 0)) rfl own_d1_43 (pc' := 44) rfl ?_
          refine own_bipush X0 own_d1_44 (pc' := 46) rfl (z := (63 : Int32)) rfl ?_
          refine own_iand X0 own_d1_46 (pc' := 47) rfl (z := ((List.getD xs_a1 ((p2 + (3 : Int32)).toNatClampNeg) 0) &&& (63 : Int32))) rfl ?_
          refine own_ior X0 own_d1_47 (pc' := 48) rfl (z := (((own_v1_48_1 xs_a1 p2 p3) <<< (6 : Int32)) ||| ((List.getD xs_a1 ((p2 + (3 : Int32)).toNatClampNeg) 0) &&& (63 : Int32)))) rfl ?_
          refine own_istoreN X0 own_d1_48 (pc' := 49) rfl (y := (own_v1_48_2 xs_a1 p2 p3)) rfl (Ls' := #[.val (.ref a1), .val (.int p2), .val (.int p3), .val (.int (own_v1_48_2 xs_a1 p2 p3)), .val (.int (3 : Int32))]) rfl ?_
          refine own_iinc X0 own_d1_49 (pc' := 52) rfl (x := (3 : Int32)) rfl (z := (4 : Int32)) (by decide) (Ls' := #[.val (.ref a1), .val (.int p2), .val (.int p3), .val (.int (own_v1_48_2 xs_a1 p2 p3)), .val (.int (4 : Int32))]) rfl ?_
          refine own_goto X0 own_d1_52 (by decide) (pc' := 28) rfl ?_
          refine own_iload X0 own_d1_28 (pc' := 30) rfl (v := (4 : Int32)) rfl ?_
          refine own_iloadN X0 own_d1_30 (pc' := 31) rfl (v := p3) rfl ?_
          have hk5 : ¬ ((4 : Int32) < p3) := hl
          refine own_icmpY X0 own_d1_31 (flt hk5).2.1 (by decide) (pc' := 55) rfl ?_
          refine own_iloadN X0 own_d1_55 (pc' := 56) rfl (v := (own_v1_48_2 xs_a1 p2 p3)) rfl ?_
          refine own_iret X0 (t := .int) (w := (own_v1_48_2 xs_a1 p2 p3)) hret (by simp) own_d1_56 rfl (by decide) (by decide) ?_
          exact ⟨congrArg (fun t => some (Value.int t)) (show (own_v1_48_2 xs_a1 p2 p3) = own_F1 xs_a1 p2 p3 from (by rw [own_F1, if_neg hc1, if_pos hc2, if_pos hc3, if_pos hc4])), rfl⟩
        · refine own_icmpY X0 own_d1_31 (flt hc4).2.1 (by decide) (pc' := 55) rfl ?_
          refine own_iloadN X0 own_d1_55 (pc' := 56) rfl (v := (own_v1_48_1 xs_a1 p2 p3)) rfl ?_
          refine own_iret X0 (t := .int) (w := (own_v1_48_1 xs_a1 p2 p3)) hret (by simp) own_d1_56 rfl (by decide) (by decide) ?_
          exact ⟨congrArg (fun t => some (Value.int t)) (show (own_v1_48_1 xs_a1 p2 p3) = own_F1 xs_a1 p2 p3 from (by rw [own_F1, if_neg hc1, if_pos hc2, if_pos hc3, if_neg hc4])), rfl⟩
      · refine own_icmpY X0 own_d1_31 (flt hc3).2.1 (by decide) (pc' := 55) rfl ?_
        refine own_iloadN X0 own_d1_55 (pc' := 56) rfl (v := (own_v1_48 xs_a1 p2 p3)) rfl ?_
        refine own_iret X0 (t := .int) (w := (own_v1_48 xs_a1 p2 p3)) hret (by simp) own_d1_56 rfl (by decide) (by decide) ?_
        exact ⟨congrArg (fun t => some (Value.int t)) (show (own_v1_48 xs_a1 p2 p3) = own_F1 xs_a1 p2 p3 from (by rw [own_F1, if_neg hc1, if_pos hc2, if_neg hc3])), rfl⟩
    · refine own_icmpY X0 own_d1_31 (flt hc2).2.1 (by decide) (pc' := 55) rfl ?_
      refine own_iloadN X0 own_d1_55 (pc' := 56) rfl (v := (own_v1_24 xs_a1 p2 p3)) rfl ?_
      refine own_iret X0 (t := .int) (w := (own_v1_24 xs_a1 p2 p3)) hret (by simp) own_d1_56 rfl (by decide) (by decide) ?_
      exact ⟨congrArg (fun t => some (Value.int t)) (show (own_v1_24 xs_a1 p2 p3) = own_F1 xs_a1 p2 p3 from (by rw [own_F1, if_neg hc1, if_neg hc2])), rfl⟩
theorem own_pd0 : parseMethodDescriptor "([BII)I" = some ⟨[(.array .byte), .int, .int], some .int⟩ := by decide +kernel
theorem own_ef0 (p1 : Int32) (p2 : Int32) (p3 : Int32) (p4 : Int32) (m : MethodId) : entryFrame m #[(.int p1), (.int p2), (.int p3), (.int p4)] maxLocals = mkF m 0 #[.val (.int p1), .val (.int p2), .val (.int p3), .val (.int p4), .unset, .unset, .unset, .unset, .unset] [] := by first | (simp [entryFrame, mkF, argsToLocals, Value.category, maxLocals]; done) | rfl
theorem own_pf0 : plainFor x = true := by first | exact plainFor_of_name (by first | (simp [plainName, overriddenIn]; done) | decide +kernel) | decide +kernel
def own_v0_5 (p1 : Int32) : Int32 := ((p1 &&& (3 : Int32)) + (1 : Int32))
def own_v0_84 (p2 : Int32) : Int32 := ((p2 &&& (255 : Int32)).toInt8.toInt32)
def own_v0_307 (p1 : Int32) (p2 : Int32) (p3 : Int32) (p4 : Int32) : Int32 := (own_F1 (List.set [(p4.toInt8.toInt32), (p4.toInt8.toInt32), (p4.toInt8.toInt32), (p4.toInt8.toInt32), (p4.toInt8.toInt32), (p4.toInt8.toInt32), (p4.toInt8.toInt32), (p4.toInt8.toInt32)] ((p3 &&& (3 : Int32)).toNatClampNeg) (own_v0_84 p2)) (p3 &&& (3 : Int32)) (own_v0_5 p1))
def own_v0_106 (p2 : Int32) : Int32 := ((128 : Int32) + ((p2 &&& (2147483647 : Int32)) % (1920 : Int32)))
def own_v0_122 (p2 : Int32) : Int32 := (((192 : Int32) ||| ((own_v0_106 p2) >>> (6 : Int32))).toInt8.toInt32)
def own_v0_139 (p2 : Int32) : Int32 := (((128 : Int32) ||| ((own_v0_106 p2) &&& (63 : Int32))).toInt8.toInt32)
def own_v0_307_1 (p1 : Int32) (p2 : Int32) (p3 : Int32) (p4 : Int32) : Int32 := (own_F1 (List.set (List.set [(p4.toInt8.toInt32), (p4.toInt8.toInt32), (p4.toInt8.toInt32), (p4.toInt8.toInt32), (p4.toInt8.toInt32), (p4.toInt8.toInt32), (p4.toInt8.toInt32), (p4.toInt8.toInt32)] ((p3 &&& (3 : Int32)).toNatClampNeg) (own_v0_122 p2)) (((p3 &&& (3 : Int32)) + (1 : Int32)).toNatClampNeg) (own_v0_139 p2)) (p3 &&& (3 : Int32)) (own_v0_5 p1))
def own_v0_160 (p2 : Int32) : Int32 := ((2048 : Int32) + ((p2 &&& (2147483647 : Int32)) % (63488 : Int32)))
def own_v0_176 (p2 : Int32) : Int32 := (((224 : Int32) ||| ((own_v0_160 p2) >>> (12 : Int32))).toInt8.toInt32)
def own_v0_196 (p2 : Int32) : Int32 := (((128 : Int32) ||| (((own_v0_160 p2) >>> (6 : Int32)) &&& (63 : Int32))).toInt8.toInt32)
def own_v0_213 (p2 : Int32) : Int32 := (((128 : Int32) ||| ((own_v0_160 p2) &&& (63 : Int32))).toInt8.toInt32)
def own_v0_307_2 (p1 : Int32) (p2 : Int32) (p3 : Int32) (p4 : Int32) : Int32 := (own_F1 (List.set (List.set (List.set [(p4.toInt8.toInt32), (p4.toInt8.toInt32), (p4.toInt8.toInt32), (p4.toInt8.toInt32), (p4.toInt8.toInt32), (p4.toInt8.toInt32), (p4.toInt8.toInt32), (p4.toInt8.toInt32)] ((p3 &&& (3 : Int32)).toNatClampNeg) (own_v0_176 p2)) (((p3 &&& (3 : Int32)) + (1 : Int32)).toNatClampNeg) (own_v0_196 p2)) (((p3 &&& (3 : Int32)) + (2 : Int32)).toNatClampNeg) (own_v0_213 p2)) (p3 &&& (3 : Int32)) (own_v0_5 p1))
def own_v0_227 (p2 : Int32) : Int32 := ((65536 : Int32) + ((p2 &&& (2147483647 : Int32)) % (1048576 : Int32)))
def own_v0_243 (p2 : Int32) : Int32 := (((240 : Int32) ||| ((own_v0_227 p2) >>> (18 : Int32))).toInt8.toInt32)
def own_v0_263 (p2 : Int32) : Int32 := (((128 : Int32) ||| (((own_v0_227 p2) >>> (12 : Int32)) &&& (63 : Int32))).toInt8.toInt32)
def own_v0_283 (p2 : Int32) : Int32 := (((128 : Int32) ||| (((own_v0_227 p2) >>> (6 : Int32)) &&& (63 : Int32))).toInt8.toInt32)
def own_v0_300 (p2 : Int32) : Int32 := (((128 : Int32) ||| ((own_v0_227 p2) &&& (63 : Int32))).toInt8.toInt32)
def own_v0_307_3 (p1 : Int32) (p2 : Int32) (p3 : Int32) (p4 : Int32) : Int32 := (own_F1 (List.set (List.set (List.set (List.set [(p4.toInt8.toInt32), (p4.toInt8.toInt32), (p4.toInt8.toInt32), (p4.toInt8.toInt32), (p4.toInt8.toInt32), (p4.toInt8.toInt32), (p4.toInt8.toInt32), (p4.toInt8.toInt32)] ((p3 &&& (3 : Int32)).toNatClampNeg) (own_v0_243 p2)) (((p3 &&& (3 : Int32)) + (1 : Int32)).toNatClampNeg) (own_v0_263 p2)) (((p3 &&& (3 : Int32)) + (2 : Int32)).toNatClampNeg) (own_v0_283 p2)) (((p3 &&& (3 : Int32)) + (3 : Int32)).toNatClampNeg) (own_v0_300 p2)) (p3 &&& (3 : Int32)) (own_v0_5 p1))
def own_F0 (p1 : Int32) (p2 : Int32) (p3 : Int32) (p4 : Int32) : Int32 := (if (own_v0_5 p1) = (1 : Int32) then (if (own_v0_307 p1 p2 p3 p4) = (p2 &&& (255 : Int32)) then (1 : Int32) else (0 : Int32)) else (if (own_v0_5 p1) = (2 : Int32) then (if (own_v0_307_1 p1 p2 p3 p4) = (own_v0_106 p2) then (1 : Int32) else (0 : Int32)) else (if (own_v0_5 p1) = (3 : Int32) then (if (own_v0_307_2 p1 p2 p3 p4) = (own_v0_160 p2) then (1 : Int32) else (0 : Int32)) else (if (own_v0_307_3 p1 p2 p3 p4) = (own_v0_227 p2) then (1 : Int32) else (0 : Int32)))))
-- LEMMAS
theorem own_m3 (p : Int32) : 0 ≤ (p &&& 3).toInt ∧ (p &&& 3).toInt ≤ 3 := by
  have a1 : (p &&& 3).toInt = p.toInt % 4 := own_mk (k := 2) (by decide) (by decide)
  omega
theorem own_a0 (p : Int32) : ¬ (p &&& 3) < (0 : Int32) := by
  have e0 : (0 : Int32).toInt = 0 := rfl
  rw [own_lt]; have := own_m3 p; omega
theorem own_a3 (p : Int32) : ¬ (3 : Int32) < (p &&& 3) := by
  have e0 : (3 : Int32).toInt = 3 := rfl
  rw [own_lt]; have := own_m3 p; omega
theorem own_ln (p : Int32) : ((p &&& 3) + 1).toInt = (p &&& 3).toInt + 1 := by
  have := own_m3 p
  exact own_AI rfl (show (1 : Int32).toInt = 1 from rfl) (by omega) (by omega)
theorem own_l4 (p : Int32) : ¬ (4 : Int32) < (p &&& 3) + 1 := by
  have e0 : (4 : Int32).toInt = 4 := rfl
  rw [own_lt, own_ln]; have := own_m3 p; omega
-- END LEMMAS
set_option maxRecDepth 65536 in
set_option maxHeartbeats 40000000 in
theorem own_rm0 (l : Launch) (Z : State) (a0 : Array Value) (hw : ∀ d ∈ tables_1, d.before a0 Z = true) (p1 : Int32) (p2 : Int32) (p3 : Int32) (p4 : Int32) (h0 : Heap) (n0 : Nat) (Z0 : n0 ≤ h0.size) :
    own_Con l Z x code maxLocals ret room_1 #[(.int p1), (.int p2), (.int p3), (.int p4)] h0 n0 (fun v h => v = some (.int (own_F0 p1 p2 p3 p4))) := by
  refine own_enter own_pf0 Z0 (own_ef0 p1 p2 p3 p4) ?_
  intro p e s m below meth c T0 X0 hret hnm
  refine own_iloadN X0 at_0 (pc' := 1) rfl (v := p1) rfl ?_
  refine own_iconst X0 at_1 (pc' := 2) rfl (z := (3 : Int32)) rfl ?_
  refine own_iand X0 at_2 (pc' := 3) rfl (z := (p1 &&& (3 : Int32))) rfl ?_
  refine own_iconst X0 at_3 (pc' := 4) rfl (z := (1 : Int32)) rfl ?_
  refine own_iadd X0 at_4 (pc' := 5) rfl (z := ((p1 &&& (3 : Int32)) + (1 : Int32))) rfl ?_
  refine own_istore X0 at_5 (pc' := 7) rfl (y := (own_v0_5 p1)) rfl (Ls' := #[.val (.int p1), .val (.int p2), .val (.int p3), .val (.int p4), .val (.int (own_v0_5 p1)), .unset, .unset, .unset, .unset]) rfl ?_
  refine own_iloadN X0 at_7 (pc' := 8) rfl (v := p3) rfl ?_
  refine own_iconst X0 at_8 (pc' := 9) rfl (z := (3 : Int32)) rfl ?_
  refine own_iand X0 at_9 (pc' := 10) rfl (z := (p3 &&& (3 : Int32))) rfl ?_
  refine own_istore X0 at_10 (pc' := 12) rfl (y := (p3 &&& (3 : Int32))) rfl (Ls' := #[.val (.int p1), .val (.int p2), .val (.int p3), .val (.int p4), .val (.int (own_v0_5 p1)), .val (.int (p3 &&& (3 : Int32))), .unset, .unset, .unset]) rfl ?_
  refine own_iloadN X0 at_12 (pc' := 13) rfl (v := p4) rfl ?_
  refine own_i2b X0 at_13 (pc' := 14) rfl (z := (p4.toInt8.toInt32)) rfl ?_
  refine own_istore X0 at_14 (pc' := 16) rfl (y := (p4.toInt8.toInt32)) rfl (Ls' := #[.val (.int p1), .val (.int p2), .val (.int p3), .val (.int p4), .val (.int (own_v0_5 p1)), .val (.int (p3 &&& (3 : Int32))), .val (.int (p4.toInt8.toInt32)), .unset, .unset]) rfl ?_
  refine own_bipush X0 at_16 (pc' := 18) rfl (z := (8 : Int32)) rfl ?_
  refine own_newV X0 rfl rfl (hw _ (List.mem_of_getElem? (i := 0) rfl)) (by decide) 8 (by decide) (by decide) (by decide) (by decide) at_18 (pc' := 20) rfl fun T2 h3 b1 X4 Ex5 hs6 g7 V8 => ?_
  replace V8 : own_V Z h3 b1 .byte (8 : Int32) [(0 : Int32), (0 : Int32), (0 : Int32), (0 : Int32), (0 : Int32), (0 : Int32), (0 : Int32), (0 : Int32)] := V8
  refine own_dup X4 at_20 (pc' := 21) rfl rfl ?_
  refine own_iconst X4 at_21 (pc' := 22) rfl (z := (0 : Int32)) rfl ?_
  refine own_iload X4 at_22 (pc' := 24) rfl (v := (p4.toInt8.toInt32)) rfl ?_
  refine own_bastore X4 V8 g7 (y := (p4.toInt8.toInt32)) (own_nb _) 0 rfl (by decide) (by decide) at_24 (pc' := 25) rfl fun T9 h10 lc12 X11 W13 V14 => ?_
  replace V14 : own_V Z h10 b1 .byte (8 : Int32) [(p4.toInt8.toInt32), (0 : Int32), (0 : Int32), (0 : Int32), (0 : Int32), (0 : Int32), (0 : Int32), (0 : Int32)] := V14
  refine own_dup X11 at_25 (pc' := 26) rfl rfl ?_
  refine own_iconst X11 at_26 (pc' := 27) rfl (z := (1 : Int32)) rfl ?_
  refine own_iload X11 at_27 (pc' := 29) rfl (v := (p4.toInt8.toInt32)) rfl ?_
  refine own_bastore X11 V14 g7 (y := (p4.toInt8.toInt32)) (own_nb _) 1 rfl (by decide) (by decide) at_29 (pc' := 30) rfl fun T15 h16 lc18 X17 W19 V20 => ?_
  replace V20 : own_V Z h16 b1 .byte (8 : Int32) [(p4.toInt8.toInt32), (p4.toInt8.toInt32), (0 : Int32), (0 : Int32), (0 : Int32), (0 : Int32), (0 : Int32), (0 : Int32)] := V20
  refine own_dup X17 at_30 (pc' := 31) rfl rfl ?_
  refine own_iconst X17 at_31 (pc' := 32) rfl (z := (2 : Int32)) rfl ?_
  refine own_iload X17 at_32 (pc' := 34) rfl (v := (p4.toInt8.toInt32)) rfl ?_
  refine own_bastore X17 V20 g7 (y := (p4.toInt8.toInt32)) (own_nb _) 2 rfl (by decide) (by decide) at_34 (pc' := 35) rfl fun T21 h22 lc24 X23 W25 V26 => ?_
  replace V26 : own_V Z h22 b1 .byte (8 : Int32) [(p4.toInt8.toInt32), (p4.toInt8.toInt32), (p4.toInt8.toInt32), (0 : Int32), (0 : Int32), (0 : Int32), (0 : Int32), (0 : Int32)] := V26
  refine own_dup X23 at_35 (pc' := 36) rfl rfl ?_
  refine own_iconst X23 at_36 (pc' := 37) rfl (z := (3 : Int32)) rfl ?_
  refine own_iload X23 at_37 (pc' := 39) rfl (v := (p4.toInt8.toInt32)) rfl ?_
  refine own_bastore X23 V26 g7 (y := (p4.toInt8.toInt32)) (own_nb _) 3 rfl (by decide) (by decide) at_39 (pc' := 40) rfl fun T27 h28 lc30 X29 W31 V32 => ?_
  replace V32 : own_V Z h28 b1 .byte (8 : Int32) [(p4.toInt8.toInt32), (p4.toInt8.toInt32), (p4.toInt8.toInt32), (p4.toInt8.toInt32), (0 : Int32), (0 : Int32), (0 : Int32), (0 : Int32)] := V32
  refine own_dup X29 at_40 (pc' := 41) rfl rfl ?_
  refine own_iconst X29 at_41 (pc' := 42) rfl (z := (4 : Int32)) rfl ?_
  refine own_iload X29 at_42 (pc' := 44) rfl (v := (p4.toInt8.toInt32)) rfl ?_
  refine own_bastore X29 V32 g7 (y := (p4.toInt8.toInt32)) (own_nb _) 4 rfl (by decide) (by decide) at_44 (pc' := 45) rfl fun T33 h34 lc36 X35 W37 V38 => ?_
  replace V38 : own_V Z h34 b1 .byte (8 : Int32) [(p4.toInt8.toInt32), (p4.toInt8.toInt32), (p4.toInt8.toInt32), (p4.toInt8.toInt32), (p4.toInt8.toInt32), (0 : Int32), (0 : Int32), (0 : Int32)] := V38
  refine own_dup X35 at_45 (pc' := 46) rfl rfl ?_
  refine own_iconst X35 at_46 (pc' := 47) rfl (z := (5 : Int32)) rfl ?_
  refine own_iload X35 at_47 (pc' := 49) rfl (v := (p4.toInt8.toInt32)) rfl ?_
  refine own_bastore X35 V38 g7 (y := (p4.toInt8.toInt32)) (own_nb _) 5 rfl (by decide) (by decide) at_49 (pc' := 50) rfl fun T39 h40 lc42 X41 W43 V44 => ?_
  replace V44 : own_V Z h40 b1 .byte (8 : Int32) [(p4.toInt8.toInt32), (p4.toInt8.toInt32), (p4.toInt8.toInt32), (p4.toInt8.toInt32), (p4.toInt8.toInt32), (p4.toInt8.toInt32), (0 : Int32), (0 : Int32)] := V44
  refine own_dup X41 at_50 (pc' := 51) rfl rfl ?_
  refine own_bipush X41 at_51 (pc' := 53) rfl (z := (6 : Int32)) rfl ?_
  refine own_iload X41 at_53 (pc' := 55) rfl (v := (p4.toInt8.toInt32)) rfl ?_
  refine own_bastore X41 V44 g7 (y := (p4.toInt8.toInt32)) (own_nb _) 6 rfl (by decide) (by decide) at_55 (pc' := 56) rfl fun T45 h46 lc48 X47 W49 V50 => ?_
  replace V50 : own_V Z h46 b1 .byte (8 : Int32) [(p4.toInt8.toInt32), (p4.toInt8.toInt32), (p4.toInt8.toInt32), (p4.toInt8.toInt32), (p4.toInt8.toInt32), (p4.toInt8.toInt32), (p4.toInt8.toInt32), (0 : Int32)] := V50
  refine own_dup X47 at_56 (pc' := 57) rfl rfl ?_
  refine own_bipush X47 at_57 (pc' := 59) rfl (z := (7 : Int32)) rfl ?_
  refine own_iload X47 at_59 (pc' := 61) rfl (v := (p4.toInt8.toInt32)) rfl ?_
  refine own_bastore X47 V50 g7 (y := (p4.toInt8.toInt32)) (own_nb _) 7 rfl (by decide) (by decide) at_61 (pc' := 62) rfl fun T51 h52 lc54 X53 W55 V56 => ?_
  replace V56 : own_V Z h52 b1 .byte (8 : Int32) [(p4.toInt8.toInt32), (p4.toInt8.toInt32), (p4.toInt8.toInt32), (p4.toInt8.toInt32), (p4.toInt8.toInt32), (p4.toInt8.toInt32), (p4.toInt8.toInt32), (p4.toInt8.toInt32)] := V56
  refine own_astore X53 at_62 (pc' := 64) rfl rfl (Ls' := #[.val (.int p1), .val (.int p2), .val (.int p3), .val (.int p4), .val (.int (own_v0_5 p1)), .val (.int (p3 &&& (3 : Int32))), .val (.int (p4.toInt8.toInt32)), .val (.ref b1), .unset]) rfl ?_
  refine own_iload X53 at_64 (pc' := 66) rfl (v := (own_v0_5 p1)) rfl ?_
  refine own_iconst X53 at_66 (pc' := 67) rfl (z := (1 : Int32)) rfl ?_
  by_cases hc57 : (own_v0_5 p1) = (1 : Int32)
  · refine own_icmpN X53 at_67 (teq hc57).2 (pc' := 70) rfl ?_
    refine own_iloadN X53 at_70 (pc' := 71) rfl (v := p2) rfl ?_
    refine own_sipush X53 at_71 (pc' := 74) rfl (z := (255 : Int32)) rfl ?_
    refine own_iand X53 at_74 (pc' := 75) rfl (z := (p2 &&& (255 : Int32))) rfl ?_
    refine own_istore X53 at_75 (pc' := 77) rfl (y := (p2 &&& (255 : Int32))) rfl (Ls' := #[.val (.int p1), .val (.int p2), .val (.int p3), .val (.int p4), .val (.int (own_v0_5 p1)), .val (.int (p3 &&& (3 : Int32))), .val (.int (p4.toInt8.toInt32)), .val (.ref b1), .val (.int (p2 &&& (255 : Int32)))]) rfl ?_
    refine own_aload X53 at_77 (pc' := 79) rfl (v := (.ref b1)) rfl rfl ?_
    refine own_iload X53 at_79 (pc' := 81) rfl (v := (p3 &&& (3 : Int32))) rfl ?_
    refine own_iload X53 at_81 (pc' := 83) rfl (v := (p2 &&& (255 : Int32))) rfl ?_
    refine own_i2b X53 at_83 (pc' := 84) rfl (z := ((p2 &&& (255 : Int32)).toInt8.toInt32)) rfl ?_
    refine own_bastore X53 V56 g7 (y := (own_v0_84 p2)) (own_nb _) ((p3 &&& (3 : Int32)).toNatClampNeg) rfl (own_a0 p3) (own_at0 (own_a3 p3)) at_84 (pc' := 85) rfl fun T58 h59 lc61 X60 W62 V63 => ?_
    refine own_goto X60 at_85 (by decide) (pc' := 301) rfl ?_
    refine own_aload X60 at_301 (pc' := 303) rfl (v := (.ref b1)) rfl rfl ?_
    refine own_iload X60 at_303 (pc' := 305) rfl (v := (p3 &&& (3 : Int32))) rfl ?_
    refine own_iload X60 at_305 (pc' := 307) rfl (v := (own_v0_5 p1)) rfl ?_
    refine own_callS X60 (argsL := [(.ref b1), (.int (p3 &&& (3 : Int32))), (.int (own_v0_5 p1))]) (S := []) (own_rm1 l Z a0 hw b1 (List.set [(p4.toInt8.toInt32), (p4.toInt8.toInt32), (p4.toInt8.toInt32), (p4.toInt8.toInt32), (p4.toInt8.toInt32), (p4.toInt8.toInt32), (p4.toInt8.toInt32), (p4.toInt8.toInt32)] ((p3 &&& (3 : Int32)).toNatClampNeg) (own_v0_84 p2)) (p3 &&& (3 : Int32)) (own_v0_5 p1) h59 n0 X60.2.2.2.2.2.2.2.2.1 V63 (own_a0 p3) (own_a3 p3) (own_l4 p1)) (hw _ (List.mem_of_getElem? (i := 1) rfl)) (hw _ (List.mem_of_getElem? (i := 2) rfl)) (hw _ (List.mem_of_getElem? (i := 3) rfl)) (hw _ (List.mem_of_getElem? (i := 4) rfl)) (by decide) (by decide) 0 (by decide) rfl own_pd0 rfl rfl (Nat.le_of_eq rfl) (by decide) (by decide) at_307 (pc' := 310) rfl fun T64 h65 lc66 r67 X68 Q69 => ?_
    obtain ⟨rfl, e70⟩ := Q69
    replace e70 := e70.symm
    subst e70
    show own_E p e below _ (T64.setTop (mkF m 310 #[.val (.int p1), .val (.int p2), .val (.int p3), .val (.int p4), .val (.int (own_v0_5 p1)), .val (.int (p3 &&& (3 : Int32))), .val (.int (p4.toInt8.toInt32)), .val (.ref b1), .val (.int (p2 &&& (255 : Int32)))] [(.int (own_v0_307 p1 p2 p3 p4))]))
    refine own_iload X68 at_310 (pc' := 312) rfl (v := (p2 &&& (255 : Int32))) rfl ?_
    by_cases hc71 : (own_v0_307 p1 p2 p3 p4) = (p2 &&& (255 : Int32))
    · refine own_icmpN X68 at_312 (teq hc71).2 (pc' := 315) rfl ?_
      refine own_iconst X68 at_315 (pc' := 316) rfl (z := (1 : Int32)) rfl ?_
      refine own_goto X68 at_316 (by decide) (pc' := 320) rfl ?_
      refine own_iret X68 (t := .boolean) (w := (1 : Int32)) hret (by simp) at_320 rfl (by decide) (by decide) ?_
      exact congrArg (fun t => some (Value.int t)) (show (1 : Int32) = own_F0 p1 p2 p3 p4 from (by rw [own_F0, if_pos hc57, if_pos hc71]))
    · refine own_icmpY X68 at_312 (feq hc71).2 (by decide) (pc' := 319) rfl ?_
      refine own_iconst X68 at_319 (pc' := 320) rfl (z := (0 : Int32)) rfl ?_
      refine own_iret X68 (t := .boolean) (w := (0 : Int32)) hret (by simp) at_320 rfl (by decide) (by decide) ?_
      exact congrArg (fun t => some (Value.int t)) (show (0 : Int32) = own_F0 p1 p2 p3 p4 from (by rw [own_F0, if_pos hc57, if_neg hc71]))
  · refine own_icmpY X53 at_67 (feq hc57).2 (by decide) (pc' := 88) rfl ?_
    refine own_iload X53 at_88 (pc' := 90) rfl (v := (own_v0_5 p1)) rfl ?_
    refine own_iconst X53 at_90 (pc' := 91) rfl (z := (2 : Int32)) rfl ?_
    by_cases hc72 : (own_v0_5 p1) = (2 : Int32)
    · refine own_icmpN X53 at_91 (teq hc72).2 (pc' := 94) rfl ?_
      refine own_sipush X53 at_94 (pc' := 97) rfl (z := (128 : Int32)) rfl ?_
      refine own_iloadN X53 at_97 (pc' := 98) rfl (v := p2) rfl ?_
      refine own_ldc X53 (hw _ (List.mem_of_getElem? (i := 6) rfl)) at_98 (pc' := 100) rfl ?_
      refine own_iand X53 at_100 (pc' := 101) rfl (z := (p2 &&& (2147483647 : Int32))) rfl ?_
      refine own_sipush X53 at_101 (pc' := 104) rfl (z := (1920 : Int32)) rfl ?_
      refine own_irem X53 at_104 (pc' := 105) rfl (by decide) (z := ((p2 &&& (2147483647 : Int32)) % (1920 : Int32))) rfl ?_
      refine own_iadd X53 at_105 (pc' := 106) rfl (z := ((128 : Int32) + ((p2 &&& (2147483647 : Int32)) % (1920 : Int32)))) rfl ?_
      refine own_istore X53 at_106 (pc' := 108) rfl (y := (own_v0_106 p2)) rfl (Ls' := #[.val (.int p1), .val (.int p2), .val (.int p3), .val (.int p4), .val (.int (own_v0_5 p1)), .val (.int (p3 &&& (3 : Int32))), .val (.int (p4.toInt8.toInt32)), .val (.ref b1), .val (.int (own_v0_106 p2))]) rfl ?_
      refine own_aload X53 at_108 (pc' := 110) rfl (v := (.ref b1)) rfl rfl ?_
      refine own_iload X53 at_110 (pc' := 112) rfl (v := (p3 &&& (3 : Int32))) rfl ?_
      refine own_sipush X53 at_112 (pc' := 115) rfl (z := (192 : Int32)) rfl ?_
      refine own_iload X53 at_115 (pc' := 117) rfl (v := (own_v0_106 p2)) rfl ?_
      refine own_bipush X53 at_117 (pc' := 119) rfl (z := (6 : Int32)) rfl ?_
      refine own_ishr X53 at_119 (pc' := 120) rfl (z := ((own_v0_106 p2) >>> (6 : Int32))) rfl ?_
      refine own_ior X53 at_120 (pc' := 121) rfl (z := ((192 : Int32) ||| ((own_v0_106 p2) >>> (6 : Int32)))) rfl ?_
      refine own_i2b X53 at_121 (pc' := 122) rfl (z := (((192 : Int32) ||| ((own_v0_106 p2) >>> (6 : Int32))).toInt8.toInt32)) rfl ?_
      refine own_bastore X53 V56 g7 (y := (own_v0_122 p2)) (own_nb _) ((p3 &&& (3 : Int32)).toNatClampNeg) rfl (own_a0 p3) (own_at0 (own_a3 p3)) at_122 (pc' := 123) rfl fun T73 h74 lc76 X75 W77 V78 => ?_
      refine own_aload X75 at_123 (pc' := 125) rfl (v := (.ref b1)) rfl rfl ?_
      refine own_iload X75 at_125 (pc' := 127) rfl (v := (p3 &&& (3 : Int32))) rfl ?_
      refine own_iconst X75 at_127 (pc' := 128) rfl (z := (1 : Int32)) rfl ?_
      refine own_iadd X75 at_128 (pc' := 129) rfl (z := ((p3 &&& (3 : Int32)) + (1 : Int32))) rfl ?_
      refine own_sipush X75 at_129 (pc' := 132) rfl (z := (128 : Int32)) rfl ?_
      refine own_iload X75 at_132 (pc' := 134) rfl (v := (own_v0_106 p2)) rfl ?_
      refine own_bipush X75 at_134 (pc' := 136) rfl (z := (63 : Int32)) rfl ?_
      refine own_iand X75 at_136 (pc' := 137) rfl (z := ((own_v0_106 p2) &&& (63 : Int32))) rfl ?_
      refine own_ior X75 at_137 (pc' := 138) rfl (z := ((128 : Int32) ||| ((own_v0_106 p2) &&& (63 : Int32)))) rfl ?_
      refine own_i2b X75 at_138 (pc' := 139) rfl (z := (((128 : Int32) ||| ((own_v0_106 p2) &&& (63 : Int32))).toInt8.toInt32)) rfl ?_
      refine own_bastore X75 V78 g7 (y := (own_v0_139 p2)) (own_nb _) (((p3 &&& (3 : Int32)) + (1 : Int32)).toNatClampNeg) rfl (own_at (own_a0 p3) (own_a3 p3) (by decide) (by decide)).2.1 (own_at (own_a0 p3) (own_a3 p3) (by decide) (by decide)).2.2 at_139 (pc' := 140) rfl fun T79 h80 lc82 X81 W83 V84 => ?_
      refine own_goto X81 at_140 (by decide) (pc' := 301) rfl ?_
      refine own_aload X81 at_301 (pc' := 303) rfl (v := (.ref b1)) rfl rfl ?_
      refine own_iload X81 at_303 (pc' := 305) rfl (v := (p3 &&& (3 : Int32))) rfl ?_
      refine own_iload X81 at_305 (pc' := 307) rfl (v := (own_v0_5 p1)) rfl ?_
      refine own_callS X81 (argsL := [(.ref b1), (.int (p3 &&& (3 : Int32))), (.int (own_v0_5 p1))]) (S := []) (own_rm1 l Z a0 hw b1 (List.set (List.set [(p4.toInt8.toInt32), (p4.toInt8.toInt32), (p4.toInt8.toInt32), (p4.toInt8.toInt32), (p4.toInt8.toInt32), (p4.toInt8.toInt32), (p4.toInt8.toInt32), (p4.toInt8.toInt32)] ((p3 &&& (3 : Int32)).toNatClampNeg) (own_v0_122 p2)) (((p3 &&& (3 : Int32)) + (1 : Int32)).toNatClampNeg) (own_v0_139 p2)) (p3 &&& (3 : Int32)) (own_v0_5 p1) h80 n0 X81.2.2.2.2.2.2.2.2.1 V84 (own_a0 p3) (own_a3 p3) (own_l4 p1)) (hw _ (List.mem_of_getElem? (i := 1) rfl)) (hw _ (List.mem_of_getElem? (i := 2) rfl)) (hw _ (List.mem_of_getElem? (i := 3) rfl)) (hw _ (List.mem_of_getElem? (i := 4) rfl)) (by decide) (by decide) 0 (by decide) rfl own_pd0 rfl rfl (Nat.le_of_eq rfl) (by decide) (by decide) at_307 (pc' := 310) rfl fun T85 h86 lc87 r88 X89 Q90 => ?_
      obtain ⟨rfl, e91⟩ := Q90
      replace e91 := e91.symm
      subst e91
      show own_E p e below _ (T85.setTop (mkF m 310 #[.val (.int p1), .val (.int p2), .val (.int p3), .val (.int p4), .val (.int (own_v0_5 p1)), .val (.int (p3 &&& (3 : Int32))), .val (.int (p4.toInt8.toInt32)), .val (.ref b1), .val (.int (own_v0_106 p2))] [(.int (own_v0_307_1 p1 p2 p3 p4))]))
      refine own_iload X89 at_310 (pc' := 312) rfl (v := (own_v0_106 p2)) rfl ?_
      by_cases hc92 : (own_v0_307_1 p1 p2 p3 p4) = (own_v0_106 p2)
      · refine own_icmpN X89 at_312 (teq hc92).2 (pc' := 315) rfl ?_
        refine own_iconst X89 at_315 (pc' := 316) rfl (z := (1 : Int32)) rfl ?_
        refine own_goto X89 at_316 (by decide) (pc' := 320) rfl ?_
        refine own_iret X89 (t := .boolean) (w := (1 : Int32)) hret (by simp) at_320 rfl (by decide) (by decide) ?_
        exact congrArg (fun t => some (Value.int t)) (show (1 : Int32) = own_F0 p1 p2 p3 p4 from (by rw [own_F0, if_neg hc57, if_pos hc72, if_pos hc92]))
      · refine own_icmpY X89 at_312 (feq hc92).2 (by decide) (pc' := 319) rfl ?_
        refine own_iconst X89 at_319 (pc' := 320) rfl (z := (0 : Int32)) rfl ?_
        refine own_iret X89 (t := .boolean) (w := (0 : Int32)) hret (by simp) at_320 rfl (by decide) (by decide) ?_
        exact congrArg (fun t => some (Value.int t)) (show (0 : Int32) = own_F0 p1 p2 p3 p4 from (by rw [own_F0, if_neg hc57, if_pos hc72, if_neg hc92]))
    · refine own_icmpY X53 at_91 (feq hc72).2 (by decide) (pc' := 143) rfl ?_
      refine own_iload X53 at_143 (pc' := 145) rfl (v := (own_v0_5 p1)) rfl ?_
      refine own_iconst X53 at_145 (pc' := 146) rfl (z := (3 : Int32)) rfl ?_
      by_cases hc93 : (own_v0_5 p1) = (3 : Int32)
      · refine own_icmpN X53 at_146 (teq hc93).2 (pc' := 149) rfl ?_
        refine own_sipush X53 at_149 (pc' := 152) rfl (z := (2048 : Int32)) rfl ?_
        refine own_iloadN X53 at_152 (pc' := 153) rfl (v := p2) rfl ?_
        refine own_ldc X53 (hw _ (List.mem_of_getElem? (i := 6) rfl)) at_153 (pc' := 155) rfl ?_
        refine own_iand X53 at_155 (pc' := 156) rfl (z := (p2 &&& (2147483647 : Int32))) rfl ?_
        refine own_ldc X53 (hw _ (List.mem_of_getElem? (i := 8) rfl)) at_156 (pc' := 158) rfl ?_
        refine own_irem X53 at_158 (pc' := 159) rfl (by decide) (z := ((p2 &&& (2147483647 : Int32)) % (63488 : Int32))) rfl ?_
        refine own_iadd X53 at_159 (pc' := 160) rfl (z := ((2048 : Int32) + ((p2 &&& (2147483647 : Int32)) % (63488 : Int32)))) rfl ?_
        refine own_istore X53 at_160 (pc' := 162) rfl (y := (own_v0_160 p2)) rfl (Ls' := #[.val (.int p1), .val (.int p2), .val (.int p3), .val (.int p4), .val (.int (own_v0_5 p1)), .val (.int (p3 &&& (3 : Int32))), .val (.int (p4.toInt8.toInt32)), .val (.ref b1), .val (.int (own_v0_160 p2))]) rfl ?_
        refine own_aload X53 at_162 (pc' := 164) rfl (v := (.ref b1)) rfl rfl ?_
        refine own_iload X53 at_164 (pc' := 166) rfl (v := (p3 &&& (3 : Int32))) rfl ?_
        refine own_sipush X53 at_166 (pc' := 169) rfl (z := (224 : Int32)) rfl ?_
        refine own_iload X53 at_169 (pc' := 171) rfl (v := (own_v0_160 p2)) rfl ?_
        refine own_bipush X53 at_171 (pc' := 173) rfl (z := (12 : Int32)) rfl ?_
        refine own_ishr X53 at_173 (pc' := 174) rfl (z := ((own_v0_160 p2) >>> (12 : Int32))) rfl ?_
        refine own_ior X53 at_174 (pc' := 175) rfl (z := ((224 : Int32) ||| ((own_v0_160 p2) >>> (12 : Int32)))) rfl ?_
        refine own_i2b X53 at_175 (pc' := 176) rfl (z := (((224 : Int32) ||| ((own_v0_160 p2) >>> (12 : Int32))).toInt8.toInt32)) rfl ?_
        refine own_bastore X53 V56 g7 (y := (own_v0_176 p2)) (own_nb _) ((p3 &&& (3 : Int32)).toNatClampNeg) rfl (own_a0 p3) (own_at0 (own_a3 p3)) at_176 (pc' := 177) rfl fun T94 h95 lc97 X96 W98 V99 => ?_
        refine own_aload X96 at_177 (pc' := 179) rfl (v := (.ref b1)) rfl rfl ?_
        refine own_iload X96 at_179 (pc' := 181) rfl (v := (p3 &&& (3 : Int32))) rfl ?_
        refine own_iconst X96 at_181 (pc' := 182) rfl (z := (1 : Int32)) rfl ?_
        refine own_iadd X96 at_182 (pc' := 183) rfl (z := ((p3 &&& (3 : Int32)) + (1 : Int32))) rfl ?_
        refine own_sipush X96 at_183 (pc' := 186) rfl (z := (128 : Int32)) rfl ?_
        refine own_iload X96 at_186 (pc' := 188) rfl (v := (own_v0_160 p2)) rfl ?_
        refine own_bipush X96 at_188 (pc' := 190) rfl (z := (6 : Int32)) rfl ?_
        refine own_ishr X96 at_190 (pc' := 191) rfl (z := ((own_v0_160 p2) >>> (6 : Int32))) rfl ?_
        refine own_bipush X96 at_191 (pc' := 193) rfl (z := (63 : Int32)) rfl ?_
        refine own_iand X96 at_193 (pc' := 194) rfl (z := (((own_v0_160 p2) >>> (6 : Int32)) &&& (63 : Int32))) rfl ?_
        refine own_ior X96 at_194 (pc' := 195) rfl (z := ((128 : Int32) ||| (((own_v0_160 p2) >>> (6 : Int32)) &&& (63 : Int32)))) rfl ?_
        refine own_i2b X96 at_195 (pc' := 196) rfl (z := (((128 : Int32) ||| (((own_v0_160 p2) >>> (6 : Int32)) &&& (63 : Int32))).toInt8.toInt32)) rfl ?_
        refine own_bastore X96 V99 g7 (y := (own_v0_196 p2)) (own_nb _) (((p3 &&& (3 : Int32)) + (1 : Int32)).toNatClampNeg) rfl (own_at (own_a0 p3) (own_a3 p3) (by decide) (by decide)).2.1 (own_at (own_a0 p3) (own_a3 p3) (by decide) (by decide)).2.2 at_196 (pc' := 197) rfl fun T100 h101 lc103 X102 W104 V105 => ?_
        refine own_aload X102 at_197 (pc' := 199) rfl (v := (.ref b1)) rfl rfl ?_
        refine own_iload X102 at_199 (pc' := 201) rfl (v := (p3 &&& (3 : Int32))) rfl ?_
        refine own_iconst X102 at_201 (pc' := 202) rfl (z := (2 : Int32)) rfl ?_
        refine own_iadd X102 at_202 (pc' := 203) rfl (z := ((p3 &&& (3 : Int32)) + (2 : Int32))) rfl ?_
        refine own_sipush X102 at_203 (pc' := 206) rfl (z := (128 : Int32)) rfl ?_
        refine own_iload X102 at_206 (pc' := 208) rfl (v := (own_v0_160 p2)) rfl ?_
        refine own_bipush X102 at_208 (pc' := 210) rfl (z := (63 : Int32)) rfl ?_
        refine own_iand X102 at_210 (pc' := 211) rfl (z := ((own_v0_160 p2) &&& (63 : Int32))) rfl ?_
        refine own_ior X102 at_211 (pc' := 212) rfl (z := ((128 : Int32) ||| ((own_v0_160 p2) &&& (63 : Int32)))) rfl ?_
        refine own_i2b X102 at_212 (pc' := 213) rfl (z := (((128 : Int32) ||| ((own_v0_160 p2) &&& (63 : Int32))).toInt8.toInt32)) rfl ?_
        refine own_bastore X102 V105 g7 (y := (own_v0_213 p2)) (own_nb _) (((p3 &&& (3 : Int32)) + (2 : Int32)).toNatClampNeg) rfl (own_at (own_a0 p3) (own_a3 p3) (by decide) (by decide)).2.1 (own_at (own_a0 p3) (own_a3 p3) (by decide) (by decide)).2.2 at_213 (pc' := 214) rfl fun T106 h107 lc109 X108 W110 V111 => ?_
        refine own_goto X108 at_214 (by decide) (pc' := 301) rfl ?_
        refine own_aload X108 at_301 (pc' := 303) rfl (v := (.ref b1)) rfl rfl ?_
        refine own_iload X108 at_303 (pc' := 305) rfl (v := (p3 &&& (3 : Int32))) rfl ?_
        refine own_iload X108 at_305 (pc' := 307) rfl (v := (own_v0_5 p1)) rfl ?_
        refine own_callS X108 (argsL := [(.ref b1), (.int (p3 &&& (3 : Int32))), (.int (own_v0_5 p1))]) (S := []) (own_rm1 l Z a0 hw b1 (List.set (List.set (List.set [(p4.toInt8.toInt32), (p4.toInt8.toInt32), (p4.toInt8.toInt32), (p4.toInt8.toInt32), (p4.toInt8.toInt32), (p4.toInt8.toInt32), (p4.toInt8.toInt32), (p4.toInt8.toInt32)] ((p3 &&& (3 : Int32)).toNatClampNeg) (own_v0_176 p2)) (((p3 &&& (3 : Int32)) + (1 : Int32)).toNatClampNeg) (own_v0_196 p2)) (((p3 &&& (3 : Int32)) + (2 : Int32)).toNatClampNeg) (own_v0_213 p2)) (p3 &&& (3 : Int32)) (own_v0_5 p1) h107 n0 X108.2.2.2.2.2.2.2.2.1 V111 (own_a0 p3) (own_a3 p3) (own_l4 p1)) (hw _ (List.mem_of_getElem? (i := 1) rfl)) (hw _ (List.mem_of_getElem? (i := 2) rfl)) (hw _ (List.mem_of_getElem? (i := 3) rfl)) (hw _ (List.mem_of_getElem? (i := 4) rfl)) (by decide) (by decide) 0 (by decide) rfl own_pd0 rfl rfl (Nat.le_of_eq rfl) (by decide) (by decide) at_307 (pc' := 310) rfl fun T112 h113 lc114 r115 X116 Q117 => ?_
        obtain ⟨rfl, e118⟩ := Q117
        replace e118 := e118.symm
        subst e118
        show own_E p e below _ (T112.setTop (mkF m 310 #[.val (.int p1), .val (.int p2), .val (.int p3), .val (.int p4), .val (.int (own_v0_5 p1)), .val (.int (p3 &&& (3 : Int32))), .val (.int (p4.toInt8.toInt32)), .val (.ref b1), .val (.int (own_v0_160 p2))] [(.int (own_v0_307_2 p1 p2 p3 p4))]))
        refine own_iload X116 at_310 (pc' := 312) rfl (v := (own_v0_160 p2)) rfl ?_
        by_cases hc119 : (own_v0_307_2 p1 p2 p3 p4) = (own_v0_160 p2)
        · refine own_icmpN X116 at_312 (teq hc119).2 (pc' := 315) rfl ?_
          refine own_iconst X116 at_315 (pc' := 316) rfl (z := (1 : Int32)) rfl ?_
          refine own_goto X116 at_316 (by decide) (pc' := 320) rfl ?_
          refine own_iret X116 (t := .boolean) (w := (1 : Int32)) hret (by simp) at_320 rfl (by decide) (by decide) ?_
          exact congrArg (fun t => some (Value.int t)) (show (1 : Int32) = own_F0 p1 p2 p3 p4 from (by rw [own_F0, if_neg hc57, if_neg hc72, if_pos hc93, if_pos hc119]))
        · refine own_icmpY X116 at_312 (feq hc119).2 (by decide) (pc' := 319) rfl ?_
          refine own_iconst X116 at_319 (pc' := 320) rfl (z := (0 : Int32)) rfl ?_
          refine own_iret X116 (t := .boolean) (w := (0 : Int32)) hret (by simp) at_320 rfl (by decide) (by decide) ?_
          exact congrArg (fun t => some (Value.int t)) (show (0 : Int32) = own_F0 p1 p2 p3 p4 from (by rw [own_F0, if_neg hc57, if_neg hc72, if_pos hc93, if_neg hc119]))
      · refine own_icmpY X53 at_146 (feq hc93).2 (by decide) (pc' := 217) rfl ?_
        refine own_ldc X53 (hw _ (List.mem_of_getElem? (i := 5) rfl)) at_217 (pc' := 219) rfl ?_
        refine own_iloadN X53 at_219 (pc' := 220) rfl (v := p2) rfl ?_
        refine own_ldc X53 (hw _ (List.mem_of_getElem? (i := 6) rfl)) at_220 (pc' := 222) rfl ?_
        refine own_iand X53 at_222 (pc' := 223) rfl (z := (p2 &&& (2147483647 : Int32))) rfl ?_
        refine own_ldc X53 (hw _ (List.mem_of_getElem? (i := 7) rfl)) at_223 (pc' := 225) rfl ?_
        refine own_irem X53 at_225 (pc' := 226) rfl (by decide) (z := ((p2 &&& (2147483647 : Int32)) % (1048576 : Int32))) rfl ?_
        refine own_iadd X53 at_226 (pc' := 227) rfl (z := ((65536 : Int32) + ((p2 &&& (2147483647 : Int32)) % (1048576 : Int32)))) rfl ?_
        refine own_istore X53 at_227 (pc' := 229) rfl (y := (own_v0_227 p2)) rfl (Ls' := #[.val (.int p1), .val (.int p2), .val (.int p3), .val (.int p4), .val (.int (own_v0_5 p1)), .val (.int (p3 &&& (3 : Int32))), .val (.int (p4.toInt8.toInt32)), .val (.ref b1), .val (.int (own_v0_227 p2))]) rfl ?_
        refine own_aload X53 at_229 (pc' := 231) rfl (v := (.ref b1)) rfl rfl ?_
        refine own_iload X53 at_231 (pc' := 233) rfl (v := (p3 &&& (3 : Int32))) rfl ?_
        refine own_sipush X53 at_233 (pc' := 236) rfl (z := (240 : Int32)) rfl ?_
        refine own_iload X53 at_236 (pc' := 238) rfl (v := (own_v0_227 p2)) rfl ?_
        refine own_bipush X53 at_238 (pc' := 240) rfl (z := (18 : Int32)) rfl ?_
        refine own_ishr X53 at_240 (pc' := 241) rfl (z := ((own_v0_227 p2) >>> (18 : Int32))) rfl ?_
        refine own_ior X53 at_241 (pc' := 242) rfl (z := ((240 : Int32) ||| ((own_v0_227 p2) >>> (18 : Int32)))) rfl ?_
        refine own_i2b X53 at_242 (pc' := 243) rfl (z := (((240 : Int32) ||| ((own_v0_227 p2) >>> (18 : Int32))).toInt8.toInt32)) rfl ?_
        refine own_bastore X53 V56 g7 (y := (own_v0_243 p2)) (own_nb _) ((p3 &&& (3 : Int32)).toNatClampNeg) rfl (own_a0 p3) (own_at0 (own_a3 p3)) at_243 (pc' := 244) rfl fun T120 h121 lc123 X122 W124 V125 => ?_
        refine own_aload X122 at_244 (pc' := 246) rfl (v := (.ref b1)) rfl rfl ?_
        refine own_iload X122 at_246 (pc' := 248) rfl (v := (p3 &&& (3 : Int32))) rfl ?_
        refine own_iconst X122 at_248 (pc' := 249) rfl (z := (1 : Int32)) rfl ?_
        refine own_iadd X122 at_249 (pc' := 250) rfl (z := ((p3 &&& (3 : Int32)) + (1 : Int32))) rfl ?_
        refine own_sipush X122 at_250 (pc' := 253) rfl (z := (128 : Int32)) rfl ?_
        refine own_iload X122 at_253 (pc' := 255) rfl (v := (own_v0_227 p2)) rfl ?_
        refine own_bipush X122 at_255 (pc' := 257) rfl (z := (12 : Int32)) rfl ?_
        refine own_ishr X122 at_257 (pc' := 258) rfl (z := ((own_v0_227 p2) >>> (12 : Int32))) rfl ?_
        refine own_bipush X122 at_258 (pc' := 260) rfl (z := (63 : Int32)) rfl ?_
        refine own_iand X122 at_260 (pc' := 261) rfl (z := (((own_v0_227 p2) >>> (12 : Int32)) &&& (63 : Int32))) rfl ?_
        refine own_ior X122 at_261 (pc' := 262) rfl (z := ((128 : Int32) ||| (((own_v0_227 p2) >>> (12 : Int32)) &&& (63 : Int32)))) rfl ?_
        refine own_i2b X122 at_262 (pc' := 263) rfl (z := (((128 : Int32) ||| (((own_v0_227 p2) >>> (12 : Int32)) &&& (63 : Int32))).toInt8.toInt32)) rfl ?_
        refine own_bastore X122 V125 g7 (y := (own_v0_263 p2)) (own_nb _) (((p3 &&& (3 : Int32)) + (1 : Int32)).toNatClampNeg) rfl (own_at (own_a0 p3) (own_a3 p3) (by decide) (by decide)).2.1 (own_at (own_a0 p3) (own_a3 p3) (by decide) (by decide)).2.2 at_263 (pc' := 264) rfl fun T126 h127 lc129 X128 W130 V131 => ?_
        refine own_aload X128 at_264 (pc' := 266) rfl (v := (.ref b1)) rfl rfl ?_
        refine own_iload X128 at_266 (pc' := 268) rfl (v := (p3 &&& (3 : Int32))) rfl ?_
        refine own_iconst X128 at_268 (pc' := 269) rfl (z := (2 : Int32)) rfl ?_
        refine own_iadd X128 at_269 (pc' := 270) rfl (z := ((p3 &&& (3 : Int32)) + (2 : Int32))) rfl ?_
        refine own_sipush X128 at_270 (pc' := 273) rfl (z := (128 : Int32)) rfl ?_
        refine own_iload X128 at_273 (pc' := 275) rfl (v := (own_v0_227 p2)) rfl ?_
        refine own_bipush X128 at_275 (pc' := 277) rfl (z := (6 : Int32)) rfl ?_
        refine own_ishr X128 at_277 (pc' := 278) rfl (z := ((own_v0_227 p2) >>> (6 : Int32))) rfl ?_
        refine own_bipush X128 at_278 (pc' := 280) rfl (z := (63 : Int32)) rfl ?_
        refine own_iand X128 at_280 (pc' := 281) rfl (z := (((own_v0_227 p2) >>> (6 : Int32)) &&& (63 : Int32))) rfl ?_
        refine own_ior X128 at_281 (pc' := 282) rfl (z := ((128 : Int32) ||| (((own_v0_227 p2) >>> (6 : Int32)) &&& (63 : Int32)))) rfl ?_
        refine own_i2b X128 at_282 (pc' := 283) rfl (z := (((128 : Int32) ||| (((own_v0_227 p2) >>> (6 : Int32)) &&& (63 : Int32))).toInt8.toInt32)) rfl ?_
        refine own_bastore X128 V131 g7 (y := (own_v0_283 p2)) (own_nb _) (((p3 &&& (3 : Int32)) + (2 : Int32)).toNatClampNeg) rfl (own_at (own_a0 p3) (own_a3 p3) (by decide) (by decide)).2.1 (own_at (own_a0 p3) (own_a3 p3) (by decide) (by decide)).2.2 at_283 (pc' := 284) rfl fun T132 h133 lc135 X134 W136 V137 => ?_
        refine own_aload X134 at_284 (pc' := 286) rfl (v := (.ref b1)) rfl rfl ?_
        refine own_iload X134 at_286 (pc' := 288) rfl (v := (p3 &&& (3 : Int32))) rfl ?_
        refine own_iconst X134 at_288 (pc' := 289) rfl (z := (3 : Int32)) rfl ?_
        refine own_iadd X134 at_289 (pc' := 290) rfl (z := ((p3 &&& (3 : Int32)) + (3 : Int32))) rfl ?_
        refine own_sipush X134 at_290 (pc' := 293) rfl (z := (128 : Int32)) rfl ?_
        refine own_iload X134 at_293 (pc' := 295) rfl (v := (own_v0_227 p2)) rfl ?_
        refine own_bipush X134 at_295 (pc' := 297) rfl (z := (63 : Int32)) rfl ?_
        refine own_iand X134 at_297 (pc' := 298) rfl (z := ((own_v0_227 p2) &&& (63 : Int32))) rfl ?_
        refine own_ior X134 at_298 (pc' := 299) rfl (z := ((128 : Int32) ||| ((own_v0_227 p2) &&& (63 : Int32)))) rfl ?_
        refine own_i2b X134 at_299 (pc' := 300) rfl (z := (((128 : Int32) ||| ((own_v0_227 p2) &&& (63 : Int32))).toInt8.toInt32)) rfl ?_
        refine own_bastore X134 V137 g7 (y := (own_v0_300 p2)) (own_nb _) (((p3 &&& (3 : Int32)) + (3 : Int32)).toNatClampNeg) rfl (own_at (own_a0 p3) (own_a3 p3) (by decide) (by decide)).2.1 (own_at (own_a0 p3) (own_a3 p3) (by decide) (by decide)).2.2 at_300 (pc' := 301) rfl fun T138 h139 lc141 X140 W142 V143 => ?_
        refine own_aload X140 at_301 (pc' := 303) rfl (v := (.ref b1)) rfl rfl ?_
        refine own_iload X140 at_303 (pc' := 305) rfl (v := (p3 &&& (3 : Int32))) rfl ?_
        refine own_iload X140 at_305 (pc' := 307) rfl (v := (own_v0_5 p1)) rfl ?_
        refine own_callS X140 (argsL := [(.ref b1), (.int (p3 &&& (3 : Int32))), (.int (own_v0_5 p1))]) (S := []) (own_rm1 l Z a0 hw b1 (List.set (List.set (List.set (List.set [(p4.toInt8.toInt32), (p4.toInt8.toInt32), (p4.toInt8.toInt32), (p4.toInt8.toInt32), (p4.toInt8.toInt32), (p4.toInt8.toInt32), (p4.toInt8.toInt32), (p4.toInt8.toInt32)] ((p3 &&& (3 : Int32)).toNatClampNeg) (own_v0_243 p2)) (((p3 &&& (3 : Int32)) + (1 : Int32)).toNatClampNeg) (own_v0_263 p2)) (((p3 &&& (3 : Int32)) + (2 : Int32)).toNatClampNeg) (own_v0_283 p2)) (((p3 &&& (3 : Int32)) + (3 : Int32)).toNatClampNeg) (own_v0_300 p2)) (p3 &&& (3 : Int32)) (own_v0_5 p1) h139 n0 X140.2.2.2.2.2.2.2.2.1 V143 (own_a0 p3) (own_a3 p3) (own_l4 p1)) (hw _ (List.mem_of_getElem? (i := 1) rfl)) (hw _ (List.mem_of_getElem? (i := 2) rfl)) (hw _ (List.mem_of_getElem? (i := 3) rfl)) (hw _ (List.mem_of_getElem? (i := 4) rfl)) (by decide) (by decide) 0 (by decide) rfl own_pd0 rfl rfl (Nat.le_of_eq rfl) (by decide) (by decide) at_307 (pc' := 310) rfl fun T144 h145 lc146 r147 X148 Q149 => ?_
        obtain ⟨rfl, e150⟩ := Q149
        replace e150 := e150.symm
        subst e150
        show own_E p e below _ (T144.setTop (mkF m 310 #[.val (.int p1), .val (.int p2), .val (.int p3), .val (.int p4), .val (.int (own_v0_5 p1)), .val (.int (p3 &&& (3 : Int32))), .val (.int (p4.toInt8.toInt32)), .val (.ref b1), .val (.int (own_v0_227 p2))] [(.int (own_v0_307_3 p1 p2 p3 p4))]))
        refine own_iload X148 at_310 (pc' := 312) rfl (v := (own_v0_227 p2)) rfl ?_
        by_cases hc151 : (own_v0_307_3 p1 p2 p3 p4) = (own_v0_227 p2)
        · refine own_icmpN X148 at_312 (teq hc151).2 (pc' := 315) rfl ?_
          refine own_iconst X148 at_315 (pc' := 316) rfl (z := (1 : Int32)) rfl ?_
          refine own_goto X148 at_316 (by decide) (pc' := 320) rfl ?_
          refine own_iret X148 (t := .boolean) (w := (1 : Int32)) hret (by simp) at_320 rfl (by decide) (by decide) ?_
          exact congrArg (fun t => some (Value.int t)) (show (1 : Int32) = own_F0 p1 p2 p3 p4 from (by rw [own_F0, if_neg hc57, if_neg hc72, if_neg hc93, if_pos hc151]))
        · refine own_icmpY X148 at_312 (feq hc151).2 (by decide) (pc' := 319) rfl ?_
          refine own_iconst X148 at_319 (pc' := 320) rfl (z := (0 : Int32)) rfl ?_
          refine own_iret X148 (t := .boolean) (w := (0 : Int32)) hret (by simp) at_320 rfl (by decide) (by decide) ?_
          exact congrArg (fun t => some (Value.int t)) (show (0 : Int32) = own_F0 p1 p2 p3 p4 from (by rw [own_F0, if_neg hc57, if_neg hc72, if_neg hc93, if_neg hc151]))
theorem own_rd1 {l : List Int32} {A : Nat} (hA : A + 3 < l.length) (a : Int32) : (l.set A a).getD A 0 = a := by
  rw [own_gs _ _ _ _ _ (by omega), if_pos rfl]
theorem own_rd2 {l : List Int32} {A : Nat} (hA : A + 3 < l.length) (a b : Int32) : ((l.set A a).set (A + 1) b).getD A 0 = a ∧ ((l.set A a).set (A + 1) b).getD (A + 1) 0 = b := by
  refine ⟨?_, ?_⟩
  · rw [own_gs _ _ _ _ _ (by simp; omega), if_neg (by omega), own_rd1 hA]
  · rw [own_gs _ _ _ _ _ (by simp; omega), if_pos rfl]
theorem own_rd3 {l : List Int32} {A : Nat} (hA : A + 3 < l.length) (a b c : Int32) : (((l.set A a).set (A + 1) b).set (A + 2) c).getD A 0 = a ∧ (((l.set A a).set (A + 1) b).set (A + 2) c).getD (A + 1) 0 = b ∧ (((l.set A a).set (A + 1) b).set (A + 2) c).getD (A + 2) 0 = c := by
  refine ⟨?_, ?_, ?_⟩
  · rw [own_gs _ _ _ _ _ (by simp; omega), if_neg (by omega), (own_rd2 hA a b).1]
  · rw [own_gs _ _ _ _ _ (by simp; omega), if_neg (by omega), (own_rd2 hA a b).2]
  · rw [own_gs _ _ _ _ _ (by simp; omega), if_pos rfl]
theorem own_rd4 {l : List Int32} {A : Nat} (hA : A + 3 < l.length) (a b c d : Int32) : ((((l.set A a).set (A + 1) b).set (A + 2) c).set (A + 3) d).getD A 0 = a ∧ ((((l.set A a).set (A + 1) b).set (A + 2) c).set (A + 3) d).getD (A + 1) 0 = b ∧ ((((l.set A a).set (A + 1) b).set (A + 2) c).set (A + 3) d).getD (A + 2) 0 = c ∧ ((((l.set A a).set (A + 1) b).set (A + 2) c).set (A + 3) d).getD (A + 3) 0 = d := by
  refine ⟨?_, ?_, ?_, ?_⟩
  · rw [own_gs _ _ _ _ _ (by simp; omega), if_neg (by omega), (own_rd3 hA a b c).1]
  · rw [own_gs _ _ _ _ _ (by simp; omega), if_neg (by omega), (own_rd3 hA a b c).2.1]
  · rw [own_gs _ _ _ _ _ (by simp; omega), if_neg (by omega), (own_rd3 hA a b c).2.2]
  · rw [own_gs _ _ _ _ _ (by simp; omega), if_pos rfl]
theorem own_ix (p : Int32) : (p &&& 3).toNatClampNeg ≤ 3 ∧ ((p &&& 3) + 1).toNatClampNeg = (p &&& 3).toNatClampNeg + 1 ∧ ((p &&& 3) + 2).toNatClampNeg = (p &&& 3).toNatClampNeg + 2 ∧ ((p &&& 3) + 3).toNatClampNeg = (p &&& 3).toNatClampNeg + 3 := by
  have h := own_m3 p
  have a0 := own_cl (n := p &&& 3) rfl
  have a1 := own_cl (own_at (own_a0 p) (own_a3 p) (k := 1) (by decide) (by decide)).1
  have a2 := own_cl (own_at (own_a0 p) (own_a3 p) (k := 2) (by decide) (by decide)).1
  have a3 := own_cl (own_at (own_a0 p) (own_a3 p) (k := 3) (by decide) (by decide)).1
  have e1 : (1 : Int32).toInt = 1 := rfl
  have e2 : (2 : Int32).toInt = 2 := rfl
  have e3 : (3 : Int32).toInt = 3 := rfl
  omega
/-- the tail byte: 128 + u, u below 64, masked again -/
theorem own_tail {u v : Int32} (h0 : 0 ≤ u.toInt) (h1 : u.toInt < 64) (hv : v = (((128 : Int32) ||| u).toInt8.toInt32)) : (v &&& 63).toInt = u.toInt := by
  have a1 : ((128 : Int32) ||| u).toInt = 128 + u.toInt := own_orI 6 (show (128 : Int32).toInt = 128 from rfl) rfl (by decide) (by decide) h0 h1 (by decide)
  have a2 : v.toInt = (128 + u.toInt + 128) % 256 - 128 := by rw [hv]; exact own_i8 a1
  have a3 : (v &&& 63).toInt = v.toInt % 64 := own_mk (k := 6) (by decide) (by decide)
  omega
theorem own_step {w t : Int32} {W T : Int} (hw : w.toInt = W) (ht : (t &&& 63).toInt = T) (h0 : 0 ≤ W) (h1 : W < 16777216) (h2 : 0 ≤ T) (h3 : T < 64) : ((w <<< (6 : Int32)) ||| (t &&& 63)).toInt = W * 64 + T := by
  have a1 : (w <<< (6 : Int32)).toInt = W * 64 := own_shlI (k := 6) hw (by decide) (by omega) (by omega)
  exact own_orI 6 a1 ht (by decide) (by omega) h2 h3 (by omega)
theorem own_m6 (e : Int32) : (e &&& 63).toInt = e.toInt % 64 := own_mk (k := 6) (by decide) (by decide)
theorem own_s6 (e : Int32) : (e >>> (6 : Int32)).toInt = e.toInt / 64 := own_shrI (k := 6) rfl (by decide)
theorem own_s12 (e : Int32) : (e >>> (12 : Int32)).toInt = e.toInt / 4096 := own_shrI (k := 12) rfl (by decide)
theorem own_s18 (e : Int32) : (e >>> (18 : Int32)).toInt = e.toInt / 262144 := own_shrI (k := 18) rfl (by decide)
theorem own_one (v : Int32) (h0 : 0 ≤ v.toInt) (h1 : v.toInt ≤ 255) : (v.toInt8.toInt32 &&& 255) = v := by
  have a1 := own_i8 (t := v) rfl
  have a2 : (v.toInt8.toInt32 &&& 255).toInt = v.toInt8.toInt32.toInt % 256 := own_mk (k := 8) (by decide) (by decide)
  rw [own_eq]; omega
theorem own_two {e b0 b1 : Int32} (h0 : 128 ≤ e.toInt) (h1 : e.toInt < 2048) (hb0 : b0 = (((192 : Int32) ||| (e >>> (6 : Int32))).toInt8.toInt32)) (hb1 : b1 = (((128 : Int32) ||| (e &&& (63 : Int32))).toInt8.toInt32)) : (((b0 &&& ((255 : Int32) >>> (((2 : Int32) + (1 : Int32)) &&& 31))) <<< (6 : Int32)) ||| (b1 &&& (63 : Int32))) = e := by
  have m : (255 : Int32) >>> (((2 : Int32) + (1 : Int32)) &&& 31) = 31 := by decide
  rw [m]
  have s := own_s6 e
  have a1 : ((192 : Int32) ||| (e >>> (6 : Int32))).toInt = 192 + e.toInt / 64 := own_orI 6 (show (192 : Int32).toInt = 192 from rfl) s (by decide) (by decide) (by omega) (by omega) (by decide)
  have a2 : b0.toInt = (192 + e.toInt / 64 + 128) % 256 - 128 := by rw [hb0]; exact own_i8 a1
  have a3 : (b0 &&& 31).toInt = b0.toInt % 32 := own_mk (k := 5) (by decide) (by decide)
  have m6 := own_m6 e
  have t1 := own_tail (u := e &&& 63) (by omega) (by omega) hb1
  have r := own_step a3 t1 (by omega) (by omega) (by omega) (by omega)
  rw [own_eq, r]; omega
theorem own_three {e b0 b1 b2 : Int32} (h0 : 2048 ≤ e.toInt) (h1 : e.toInt < 65536) (hb0 : b0 = (((224 : Int32) ||| (e >>> (12 : Int32))).toInt8.toInt32)) (hb1 : b1 = (((128 : Int32) ||| ((e >>> (6 : Int32)) &&& (63 : Int32))).toInt8.toInt32)) (hb2 : b2 = (((128 : Int32) ||| (e &&& (63 : Int32))).toInt8.toInt32)) : (((((b0 &&& ((255 : Int32) >>> (((3 : Int32) + (1 : Int32)) &&& 31))) <<< (6 : Int32)) ||| (b1 &&& (63 : Int32))) <<< (6 : Int32)) ||| (b2 &&& (63 : Int32))) = e := by
  have m : (255 : Int32) >>> (((3 : Int32) + (1 : Int32)) &&& 31) = 15 := by decide
  rw [m]
  have s := own_s12 e
  have s6 := own_s6 e
  have a1 : ((224 : Int32) ||| (e >>> (12 : Int32))).toInt = 224 + e.toInt / 4096 := own_orI 5 (show (224 : Int32).toInt = 224 from rfl) s (by decide) (by decide) (by omega) (by omega) (by decide)
  have a2 : b0.toInt = (224 + e.toInt / 4096 + 128) % 256 - 128 := by rw [hb0]; exact own_i8 a1
  have a3 : (b0 &&& 15).toInt = b0.toInt % 16 := own_mk (k := 4) (by decide) (by decide)
  have m6 := own_m6 e
  have m7 := own_m6 (e >>> (6 : Int32))
  have t1 := own_tail (u := (e >>> (6 : Int32)) &&& 63) (by omega) (by omega) hb1
  have t2 := own_tail (u := e &&& 63) (by omega) (by omega) hb2
  have r1 := own_step a3 t1 (by omega) (by omega) (by omega) (by omega)
  have r2 := own_step r1 t2 (by omega) (by omega) (by omega) (by omega)
  rw [own_eq, r2]; omega
theorem own_four {e b0 b1 b2 b3 : Int32} (h0 : 65536 ≤ e.toInt) (h1 : e.toInt < 1114112) (hb0 : b0 = (((240 : Int32) ||| (e >>> (18 : Int32))).toInt8.toInt32)) (hb1 : b1 = (((128 : Int32) ||| ((e >>> (12 : Int32)) &&& (63 : Int32))).toInt8.toInt32)) (hb2 : b2 = (((128 : Int32) ||| ((e >>> (6 : Int32)) &&& (63 : Int32))).toInt8.toInt32)) (hb3 : b3 = (((128 : Int32) ||| (e &&& (63 : Int32))).toInt8.toInt32)) : (((((((b0 &&& ((255 : Int32) >>> (((4 : Int32) + (1 : Int32)) &&& 31))) <<< (6 : Int32)) ||| (b1 &&& (63 : Int32))) <<< (6 : Int32)) ||| (b2 &&& (63 : Int32))) <<< (6 : Int32)) ||| (b3 &&& (63 : Int32))) = e := by
  have m : (255 : Int32) >>> (((4 : Int32) + (1 : Int32)) &&& 31) = 7 := by decide
  rw [m]
  have s := own_s18 e
  have s6 := own_s6 e
  have s12 := own_s12 e
  have a1 : ((240 : Int32) ||| (e >>> (18 : Int32))).toInt = 240 + e.toInt / 262144 := own_orI 4 (show (240 : Int32).toInt = 240 from rfl) s (by decide) (by decide) (by omega) (by omega) (by decide)
  have a2 : b0.toInt = (240 + e.toInt / 262144 + 128) % 256 - 128 := by rw [hb0]; exact own_i8 a1
  have a3 : (b0 &&& 7).toInt = b0.toInt % 8 := own_mk (k := 3) (by decide) (by decide)
  have m6 := own_m6 e
  have m7 := own_m6 (e >>> (6 : Int32))
  have m8 := own_m6 (e >>> (12 : Int32))
  have t1 := own_tail (u := (e >>> (12 : Int32)) &&& 63) (by omega) (by omega) hb1
  have t2 := own_tail (u := (e >>> (6 : Int32)) &&& 63) (by omega) (by omega) hb2
  have t3 := own_tail (u := e &&& 63) (by omega) (by omega) hb3
  have r1 := own_step a3 t1 (by omega) (by omega) (by omega) (by omega)
  have r2 := own_step r1 t2 (by omega) (by omega) (by omega) (by omega)
  have r3 := own_step r2 t3 (by omega) (by omega) (by omega) (by omega)
  rw [own_eq, r3]; omega
theorem own_rng (p : Int32) (b n : Int32) {B N : Int} (hb : b.toInt = B) (hn : n.toInt = N) (h0 : 0 ≤ B) (h1 : 0 < N) (h2 : B + N < 2147483648) : B ≤ (b + (p &&& 2147483647) % n).toInt ∧ (b + (p &&& 2147483647) % n).toInt < B + N := by
  have a1 : (p &&& 2147483647).toInt = p.toInt % 2147483648 := own_mk (k := 31) (by decide) (by decide)
  have a2 : ((p &&& 2147483647) % n).toInt = p.toInt % 2147483648 % N := own_RI a1 hn (by omega)
  have a3 : 0 ≤ p.toInt % 2147483648 % N := Int.emod_nonneg _ (by omega)
  have a4 : p.toInt % 2147483648 % N < N := Int.emod_lt_of_pos _ h1
  rw [own_AI hb a2 (by omega) (by omega)]; omega
theorem own_plain (p1 p2 p3 p4 : Int32) : own_F0 p1 p2 p3 p4 = 1 := by
  obtain ⟨x0, x1, x2, x3⟩ := own_ix p3
  have hl : (p3 &&& 3).toNatClampNeg + 3 < [(p4.toInt8.toInt32), (p4.toInt8.toInt32), (p4.toInt8.toInt32), (p4.toInt8.toInt32), (p4.toInt8.toInt32), (p4.toInt8.toInt32), (p4.toInt8.toInt32), (p4.toInt8.toInt32)].length := by simp; omega
  have hn := own_ln p1
  have hm := own_m3 p1
  have hL : (own_v0_5 p1).toInt = (p1 &&& 3).toInt + 1 := hn
  have e1 : (1 : Int32).toInt = 1 := rfl
  have e2 : (2 : Int32).toInt = 2 := rfl
  have e3 : (3 : Int32).toInt = 3 := rfl
  have e4 : (4 : Int32).toInt = 4 := rfl
  rw [own_F0]
  by_cases c1 : own_v0_5 p1 = 1
  · rw [if_pos c1, if_pos]
    rw [own_v0_307, c1, own_F1, if_pos rfl, own_rd1 hl]
    have a1 : (p2 &&& 255).toInt = p2.toInt % 256 := own_mk (k := 8) (by decide) (by decide)
    exact own_one _ (by omega) (by omega)
  · rw [if_neg c1]
    by_cases c2 : own_v0_5 p1 = 2
    · rw [if_pos c2, if_pos]
      have R := own_rd2 hl (own_v0_122 p2) (own_v0_139 p2)
      rw [own_v0_307_1, c2, own_F1, if_neg (by decide), if_pos (by decide), if_neg (by decide), own_v1_48, own_v1_24, x1, R.1, R.2]
      have g := own_rng p2 128 1920 rfl rfl (by decide) (by decide) (by decide)
      exact own_two (e := own_v0_106 p2) g.1 g.2 rfl rfl
    · rw [if_neg c2]
      by_cases c3 : own_v0_5 p1 = 3
      · rw [if_pos c3, if_pos]
        have R := own_rd3 hl (own_v0_176 p2) (own_v0_196 p2) (own_v0_213 p2)
        rw [own_v0_307_2, c3, own_F1, if_neg (by decide), if_pos (by decide), if_pos (by decide), if_neg (by decide), own_v1_48_1, own_v1_48, own_v1_24, x1, x2, R.1, R.2.1, R.2.2]
        have g := own_rng p2 2048 63488 rfl rfl (by decide) (by decide) (by decide)
        exact own_three (e := own_v0_160 p2) g.1 g.2 rfl rfl rfl
      · have c4 : own_v0_5 p1 = 4 := by rw [own_eq] at *; omega
        rw [if_neg c3, if_pos]
        have R := own_rd4 hl (own_v0_243 p2) (own_v0_263 p2) (own_v0_283 p2) (own_v0_300 p2)
        rw [own_v0_307_3, c4, own_F1, if_neg (by decide), if_pos (by decide), if_pos (by decide), if_pos (by decide), own_v1_48_2, own_v1_48_1, own_v1_48, own_v1_24, x1, x2, x3, R.1, R.2.1, R.2.2.1, R.2.2.2]
        have g := own_rng p2 65536 1048576 rfl rfl (by decide) (by decide) (by decide)
        exact own_four (e := own_v0_227 p2) g.1 g.2 rfl rfl rfl rfl
set_option maxRecDepth 65536 in
set_option maxHeartbeats 40000000 in
theorem own_comes {Post : Tables → Env → Array Value → State → Outcome → State → Prop} (hpost : ∀ tb e args s v u, (limb_1_1.after args s (.returned v) u = true ∧ limb_1_2.after args s (.returned v) u = true) → FrameEnd s (.returned v) u (Jvm.fieldLocs frame_1_writes args s ++ Jvm.arrayLocs frame_1_arrays args s ++ Jvm.staticLocs frame_1_statics s) 16 128 → Post tb e args s (.returned v) u) :
    ArmFor flags0 classFile x code maxLocals ret World_1 tables_1 room_1 Calls_1 rest_1 Pre_1 Post := by
  intro l hfl _ _ p e ha hc hk s m args below hf hA hF happ hP
  obtain ⟨hcalls, hrest, hpre⟩ := hP
  obtain ⟨-, -, -, hnamed, -, -, -, hat⟩ := (Spec.applies_iff hf).mp happ
  obtain ⟨hg, hn⟩ := and_e (Cond.before_iff.mp (show (Jvm.Cond.and given_1 narrow_1).before args s = true from hpre))
  obtain ⟨g1, g2⟩ := and_e hg
  obtain ⟨g3, g4⟩ := and_e g2
  obtain ⟨g5, g6⟩ := and_e g4
  obtain ⟨g7, g8⟩ := and_e g6
  obtain ⟨w0, w1, w2, w3, rfl⟩ : ∃ w0 w1 w2 w3 : Value, args = #[w0, w1, w2, w3] := by
    have hs : args.size = 4 := by simpa [Cond.value, given_1] using g1
    obtain ⟨L⟩ := args
    match L, hs with
    | [w0, w1, w2, w3], _ => exact ⟨w0, w1, w2, w3, rfl⟩
  have hw := fun d (hd : d ∈ tables_1) => atoms_spec (ws := Jvm.Cond.code x code maxLocals ret :: tables_1) hat d (List.mem_cons_of_mem _ hd)
  obtain ⟨i0, ei0⟩ := is_v g3
  obtain rfl : w0 = (.int i0) := Option.some.inj ei0
  obtain ⟨i1, ei1⟩ := is_v g5
  obtain rfl : w1 = (.int i1) := Option.some.inj ei1
  obtain ⟨i2, ei2⟩ := is_v g7
  obtain rfl : w2 = (.int i2) := Option.some.inj ei2
  obtain ⟨i3, ei3⟩ := is_v g8
  obtain rfl : w3 = (.int i3) := Option.some.inj ei3
  obtain ⟨n, o, h1, h2, h3, v, L, rfl, ⟨hq1, N, _⟩, hq⟩ := own_rm0 l s _ hw i0 i1 i2 i3 s.heap s.heap.size (Nat.le_refl _)  tables_1 p e ha hc hk s m _ below hf ((Spec.applies_iff_loose hf).mp happ).1 ⟨rfl, State.Warmed39.refl s, rfl⟩ trivial
  obtain rfl : v = some (.int 1) := by rw [hq1, own_plain i0 i1 i2 i3]
  exact ⟨n, _, h1, h2, h3, hpost _ _ _ _ _ _ ⟨Cond.after_iff.mpr rfl, Cond.after_iff.mpr (eq_i res_at (Term.int_eval (1)) rfl)⟩ ⟨hq.1, hq.2.1, (hq.2.2.sift fun y hy => Or.inr (N y hy)).mono (by decide) (by decide)⟩⟩
theorem main_1_1 : Claimed_1_1 := own_comes fun _ _ _ _ _ _ h hF => ⟨h.1, hF⟩
theorem main_1_2 : Claimed_1_2 := own_comes fun _ _ _ _ _ _ h hF => ⟨h.2, hF⟩
end Jvm.Pilot.@@N@@
namespace Jvm.Pilot.@@N@@
open Jvm Jvm.ClassFile Sem Op Lib Jvm.Free Jvm.Stand Jvm.Pilot.@@N@@.Jvm.D
/-! MADE BY PROGRAM (witnessworld.py) out of the Statement's table words and the real class files: 13 classes; the members and pool entries that the words name. The judged class is class 1, her method 1. -/
namespace start1
open Jvm.ClassFile
def u (s : String) : CpInfo := .utf8 (stringToUtf16 s)
/-- a pool by its gaps: so many unusable entries, then the entry; so many at the end -/
def gap : Nat → List CpInfo → List CpInfo
  | 0, r => r
  | n + 1, r => .unusable :: gap n r
def poolList (es : List (Nat × CpInfo)) (last : Nat) : List CpInfo := es.foldr (fun e r => gap e.1 (e.2 :: r)) (gap last [])
def pool (es : List (Nat × CpInfo)) (last : Nat) : Array CpInfo := ⟨poolList es last⟩
def fileOf (pool : Array CpInfo) (this : Nat) (attrs : Array Attribute := #[]) (ms : Array MethodInfo := #[]) (fl : Nat := 33) (sup : Nat := 0) (ifs : Array Nat := #[]) (fds : Array FieldInfo := #[]) : ClassFile where
  minorVersion := 0
  majorVersion := 65
  constantPool := pool
  accessFlags := fl
  thisClass := this
  superClass := sup
  interfaces := ifs
  fields := fds
  methods := ms
  attributes := attrs
def plain (name : String) (sup : Option ClassId) : Class where
  name := name
  kind := .ordinary
  loader := none
  accessFlags := 33
  super := sup
  interfaces := #[]
  cf := none
  fields := #[]
  methods := #[]
  instanceTypes := #[]
  staticTypes := #[]
  resolved := #[]
  callSites := []
  init := .initialized
  statics := none
  mirror := none

def pool0 : Array CpInfo := pool [(5, u "<init>"), (0, u "()V"), (1, .class_ 10), (1, u "java/lang/Object")] 113

def k0m0 : Method := { name := "<init>", desc := "()V", sig := { parameters := [], returnType := none }, accessFlags := 1, code := none }
/-- java/lang/Object -/
def k0 : Class := { plain "java/lang/Object" none with
  accessFlags := 33
  interfaces := #[]
  cf := some (fileOf pool0 8 #[] #[{ accessFlags := 1, nameIndex := 5, descriptorIndex := 6, attributes := #[] }] 33 0 #[] #[])
  fields := #[]
  methods := #[k0m0]
  instanceTypes := #[]
  staticTypes := #[]
  resolved := Array.replicate 124 none
  statics := none }

def pool1 : Array CpInfo := pool [(2, .class_ 4), (1, u "java/lang/Object"), (0, u "<init>"), (0, u "()V"), (0, .integer 2147483647), (0, .integer 63488), (0, .integer 65536), (0, .integer 1048576), (0, .methodref 12 13), (0, .class_ 14), (0, .nameAndType 15 16), (0, u "com/example/girolog/girolog/files/TextDecoder"), (0, u "codePoint"), (0, u "([BII)I"), (0, .class_ 18), (0, u "com/example/girolog/girolog/files/TextDecoderCodePointPinLaw"), (2, u "law"), (0, u "(IIII)Z")] 5

def k1m0 : Method := { name := "<init>", desc := "()V", sig := { parameters := [], returnType := none }, accessFlags := 1, code := none }
def k1c1 : Code := { maxStack := 5, maxLocals := 9, code := code, exceptionTable := #[], attributes := #[] }
def k1m1 : Method := { name := "law", desc := "(IIII)Z", sig := { parameters := [.int, .int, .int, .int], returnType := some .boolean }, accessFlags := 9, code := some k1c1 }
/-- com/example/girolog/girolog/files/TextDecoderCodePointPinLaw -/
def k1 : Class := { plain "com/example/girolog/girolog/files/TextDecoderCodePointPinLaw" (some 0) with
  accessFlags := 49
  interfaces := #[]
  cf := some (fileOf pool1 17 #[] #[{ accessFlags := 1, nameIndex := 5, descriptorIndex := 6, attributes := #[] }, { accessFlags := 9, nameIndex := 21, descriptorIndex := 22, attributes := #[] }] 49 2 #[] #[])
  fields := #[]
  methods := #[k1m0, k1m1]
  instanceTypes := #[]
  staticTypes := #[]
  resolved := Array.replicate 28 none
  statics := none }

def pool2 : Array CpInfo := pool [(1, .class_ 2), (0, u "java/lang/Readable"), (0, .class_ 4), (0, u "java/lang/Object")] 7

/-- java/lang/Readable -/
def k2 : Class := { plain "java/lang/Readable" (some 0) with
  accessFlags := 1537
  interfaces := #[]
  cf := some (fileOf pool2 1 #[] #[] 1537 3 #[] #[])
  fields := #[]
  methods := #[]
  instanceTypes := #[]
  staticTypes := #[]
  resolved := Array.replicate 12 none
  statics := none }

def pool3 : Array CpInfo := pool [(1, .class_ 2), (0, u "java/lang/AutoCloseable"), (0, .class_ 4), (0, u "java/lang/Object")] 7

/-- java/lang/AutoCloseable -/
def k3 : Class := { plain "java/lang/AutoCloseable" (some 0) with
  accessFlags := 1537
  interfaces := #[]
  cf := some (fileOf pool3 1 #[] #[] 1537 3 #[] #[])
  fields := #[]
  methods := #[]
  instanceTypes := #[]
  staticTypes := #[]
  resolved := Array.replicate 12 none
  statics := none }

def pool4 : Array CpInfo := pool [(1, .class_ 2), (0, u "java/io/Closeable"), (0, .class_ 4), (0, u "java/lang/Object"), (0, .class_ 6), (0, u "java/lang/AutoCloseable")] 7

/-- java/io/Closeable -/
def k4 : Class := { plain "java/io/Closeable" (some 0) with
  accessFlags := 1537
  interfaces := #[3]
  cf := some (fileOf pool4 1 #[] #[] 1537 3 #[5] #[])
  fields := #[]
  methods := #[]
  instanceTypes := #[]
  staticTypes := #[]
  resolved := Array.replicate 14 none
  statics := none }

def pool5 : Array CpInfo := pool [(1, .class_ 2), (0, u "java/io/Reader$1"), (2, u "<init>"), (0, u "()V"), (1, .class_ 9), (0, u "java/lang/Object"), (1, .class_ 13), (1, u "java/io/Reader"), (0, u "skipBuffer"), (0, u "[C"), (2, u "lock"), (0, u "Ljava/lang/Object;"), (117, .class_ 138), (0, u "java/lang/Readable"), (0, .class_ 140), (0, u "java/io/Closeable"), (0, u "TRANSFER_BUFFER_SIZE"), (0, u "I"), (2, u "maxSkipBufferSize")] 59

def k5m0 : Method := { name := "<init>", desc := "()V", sig := { parameters := [], returnType := none }, accessFlags := 4, code := none }
/-- java/io/Reader -/
def k5 : Class := { plain "java/io/Reader" (some 0) with
  accessFlags := 1057
  interfaces := #[2, 4]
  cf := some (fileOf pool5 11 #[.nestMembers #[1]] #[{ accessFlags := 4, nameIndex := 5, descriptorIndex := 6, attributes := #[] }] 1057 8 #[137, 139] #[{ accessFlags := 26, nameIndex := 141, descriptorIndex := 142, attributes := #[] }, { accessFlags := 4, nameIndex := 18, descriptorIndex := 19, attributes := #[] }, { accessFlags := 26, nameIndex := 145, descriptorIndex := 142, attributes := #[] }, { accessFlags := 2, nameIndex := 14, descriptorIndex := 15, attributes := #[] }])
  fields := #[{ name := "TRANSFER_BUFFER_SIZE", type := .int, accessFlags := 26, slot := 0, constantValue := 0 }, { name := "lock", type := (.object "java/lang/Object"), accessFlags := 4, slot := 0, constantValue := 0 }, { name := "maxSkipBufferSize", type := .int, accessFlags := 26, slot := 1, constantValue := 0 }, { name := "skipBuffer", type := (.array .char), accessFlags := 2, slot := 1, constantValue := 0 }]
  methods := #[k5m0]
  instanceTypes := #[(.object "java/lang/Object"), (.array .char)]
  staticTypes := #[.int, .int]
  resolved := Array.replicate 205 none
  statics := none }

def pool6 : Array CpInfo := pool [(2, .class_ 4), (1, u "java/io/Reader"), (2, .class_ 8), (0, u "com/example/girolog/girolog/files/TextDecoder"), (8, u "bytes"), (0, u "Ljava/nio/ByteBuffer;"), (2, u "lowSurrogate"), (0, u "I"), (2, u "in"), (0, u "Ljava/io/InputStream;"), (8, u "decoder"), (0, u "Ljava/nio/charset/CharsetDecoder;"), (12, u "utf8"), (0, u "Z"), (2, u "ASCII_COMPATIBLE"), (0, u "Ljava/util/Set;"), (7, u "asciiCompatible"), (2, u "lenient"), (7, u "chars"), (0, u "Ljava/nio/CharBuffer;"), (23, u "([BII)I"), (59, u "text"), (0, u "[B"), (2, u "textPosition"), (2, u "textLimit"), (2, u "codePoint"), (23, u "endOfBytes"), (17, u "undecodable"), (33, u "Lcom/example/girolog/girolog/files/UndecodableBytesException;"), (2, u "decodedAll"), (90, u "CHUNK"), (2, u "MAX_SEQUENCE")] 34

def k6c0 : Code := { maxStack := 4, maxLocals := 5, code := prog_77_method_11_code, exceptionTable := #[], attributes := #[] }
def k6m0 : Method := { name := "codePoint", desc := "([BII)I", sig := { parameters := [(.array .byte), .int, .int], returnType := some .int }, accessFlags := 9, code := some k6c0 }
/-- com/example/girolog/girolog/files/TextDecoder -/
def k6 : Class := { plain "com/example/girolog/girolog/files/TextDecoder" (some 5) with
  accessFlags := 49
  interfaces := #[]
  cf := some (fileOf pool6 7 #[] #[{ accessFlags := 9, nameIndex := 168, descriptorIndex := 98, attributes := #[] }] 49 2 #[] #[{ accessFlags := 25, nameIndex := 338, descriptorIndex := 22, attributes := #[] }, { accessFlags := 25, nameIndex := 341, descriptorIndex := 22, attributes := #[] }, { accessFlags := 26, nameIndex := 53, descriptorIndex := 54, attributes := #[] }, { accessFlags := 18, nameIndex := 25, descriptorIndex := 26, attributes := #[] }, { accessFlags := 18, nameIndex := 17, descriptorIndex := 18, attributes := #[] }, { accessFlags := 18, nameIndex := 35, descriptorIndex := 36, attributes := #[] }, { accessFlags := 18, nameIndex := 49, descriptorIndex := 50, attributes := #[] }, { accessFlags := 18, nameIndex := 62, descriptorIndex := 50, attributes := #[] }, { accessFlags := 18, nameIndex := 65, descriptorIndex := 50, attributes := #[] }, { accessFlags := 2, nameIndex := 192, descriptorIndex := 50, attributes := #[] }, { accessFlags := 18, nameIndex := 73, descriptorIndex := 74, attributes := #[] }, { accessFlags := 2, nameIndex := 247, descriptorIndex := 50, attributes := #[] }, { accessFlags := 2, nameIndex := 210, descriptorIndex := 244, attributes := #[] }, { accessFlags := 2, nameIndex := 158, descriptorIndex := 159, attributes := #[] }, { accessFlags := 2, nameIndex := 162, descriptorIndex := 22, attributes := #[] }, { accessFlags := 2, nameIndex := 165, descriptorIndex := 22, attributes := #[] }, { accessFlags := 2, nameIndex := 21, descriptorIndex := 22, attributes := #[] }])
  fields := #[{ name := "CHUNK", type := .int, accessFlags := 25, slot := 0, constantValue := 0 }, { name := "MAX_SEQUENCE", type := .int, accessFlags := 25, slot := 1, constantValue := 0 }, { name := "ASCII_COMPATIBLE", type := (.object "java/util/Set"), accessFlags := 26, slot := 2, constantValue := 0 }, { name := "in", type := (.object "java/io/InputStream"), accessFlags := 18, slot := 2, constantValue := 0 }, { name := "bytes", type := (.object "java/nio/ByteBuffer"), accessFlags := 18, slot := 3, constantValue := 0 }, { name := "decoder", type := (.object "java/nio/charset/CharsetDecoder"), accessFlags := 18, slot := 4, constantValue := 0 }, { name := "utf8", type := .boolean, accessFlags := 18, slot := 5, constantValue := 0 }, { name := "asciiCompatible", type := .boolean, accessFlags := 18, slot := 6, constantValue := 0 }, { name := "lenient", type := .boolean, accessFlags := 18, slot := 7, constantValue := 0 }, { name := "endOfBytes", type := .boolean, accessFlags := 2, slot := 8, constantValue := 0 }, { name := "chars", type := (.object "java/nio/CharBuffer"), accessFlags := 18, slot := 9, constantValue := 0 }, { name := "decodedAll", type := .boolean, accessFlags := 2, slot := 10, constantValue := 0 }, { name := "undecodable", type := (.object "com/example/girolog/girolog/files/UndecodableBytesException"), accessFlags := 2, slot := 11, constantValue := 0 }, { name := "text", type := (.array .byte), accessFlags := 2, slot := 12, constantValue := 0 }, { name := "textPosition", type := .int, accessFlags := 2, slot := 13, constantValue := 0 }, { name := "textLimit", type := .int, accessFlags := 2, slot := 14, constantValue := 0 }, { name := "lowSurrogate", type := .int, accessFlags := 2, slot := 15, constantValue := 0 }]
  methods := #[k6m0]
  instanceTypes := #[(.object "java/lang/Object"), (.array .char), (.object "java/io/InputStream"), (.object "java/nio/ByteBuffer"), (.object "java/nio/charset/CharsetDecoder"), .boolean, .boolean, .boolean, .boolean, (.object "java/nio/CharBuffer"), .boolean, (.object "com/example/girolog/girolog/files/UndecodableBytesException"), (.array .byte), .int, .int, .int]
  staticTypes := #[.int, .int, (.object "java/util/Set")]
  resolved := Array.replicate 376 none
  statics := none }

def pool7 : Array CpInfo := pool [(1, u "java/lang/Cloneable"), (0, .class_ 1), (0, u "java/lang/Object"), (0, .class_ 3)] 3

/-- java/lang/Cloneable -/
def k7 : Class := { plain "java/lang/Cloneable" (some 0) with
  accessFlags := 1537
  interfaces := #[]
  cf := some (fileOf pool7 2 #[] #[] 1537 4 #[] #[])
  fields := #[]
  methods := #[]
  instanceTypes := #[]
  staticTypes := #[]
  resolved := Array.replicate 8 none
  statics := none }

def pool8 : Array CpInfo := pool [(1, u "java/io/Serializable"), (0, .class_ 1), (0, u "java/lang/Object"), (0, .class_ 3)] 3

/-- java/io/Serializable -/
def k8 : Class := { plain "java/io/Serializable" (some 0) with
  accessFlags := 1537
  interfaces := #[]
  cf := some (fileOf pool8 2 #[] #[] 1537 4 #[] #[])
  fields := #[]
  methods := #[]
  instanceTypes := #[]
  staticTypes := #[]
  resolved := Array.replicate 8 none
  statics := none }

/-- the primitive byte -/
def k9 : Class := { plain "byte" none with kind := .primitive 'B', accessFlags := 0x411 }
/-- [B -/
def k10 : Class := { plain "[B" (some 0) with kind := .array 9 .byte, interfaces := #[7, 8], accessFlags := 1041 }

/-- the primitive int -/
def k11 : Class := { plain "int" none with kind := .primitive 'I', accessFlags := 0x411 }
/-- [I -/
def k12 : Class := { plain "[I" (some 0) with kind := .array 11 .int, interfaces := #[7, 8], accessFlags := 1041 }

def heap : Heap := #[]
def classes : Array Class := #[k0, k1, k2, k3, k4, k5, k6, k7, k8, k9, k10, k11, k12]
def interned : List (Array UInt16 × Addr) := []
def slotsUsed : Nat := 0
def theMethod : MethodId := ⟨1, 1⟩
def args0 : Array Value := #[.int 5, .int 9, .int 4, .int 3]
def aboutOver (below : List Frame) : State where
  vm := { classes := classes, interned := interned.toArray }
  heap := heap
  slotsUsed := slotsUsed
  threads := #[{ frames := .invoking theMethod args0 :: below }]
def below0 : List Frame := [.native { method := ⟨0, 0⟩, args := #[] }]
def about1 : State := aboutOver below0
def p0 : Program := .bare "" "" ""
def e0 : Env := launch0.env 0 0 0
theorem w_frames : about1.frames = Frame.invoking theMethod args0 :: below0 := rfl
set_option maxRecDepth 65536 in
theorem w_args : argsFit about1.vm theMethod args0 = true := by decide +kernel
set_option maxRecDepth 65536 in
theorem w_heap : heapFits about1 = true := by decide +kernel
set_option maxRecDepth 65536 in
theorem w_runnable : about1.curStatus? = some .runnable := by decide +kernel
set_option maxRecDepth 65536 in
theorem w_alone : about1.alone = true := by decide +kernel
set_option maxRecDepth 65536 in
theorem w_named : about1.methodNamed? x = some theMethod := by decide +kernel
set_option maxRecDepth 65536 in
theorem w_hears : about1.hears theMethod below0 = true := by decide +kernel
set_option maxRecDepth 65536 in
theorem w_ripe : about1.ripe theMethod args0 below0 = true := by decide +kernel
theorem w_running : about1.status = .running := rfl
set_option maxRecDepth 65536 in
theorem w_room : about1.hasRoom e0.platform room_1 = true :=
  launch0.hasRoom_least _ room_1 (by decide +kernel) (by decide +kernel) (by decide +kernel) (by decide +kernel) (by decide +kernel) (by decide +kernel)
theorem allAtoms_all (ts : List Jvm.Cond) (a : Array Jvm.Value) (st : Jvm.State) : (allAtoms ts).before a st = ts.all (fun c => c.before a st) := by
  induction ts with
  | nil => rfl
  | cons c t ih =>
    show (Jvm.Cond.and c (allAtoms t)).before a st = _
    rw [Jvm.Cond.before_and, ih, List.all_cons]
def words1 : List Jvm.Cond := Jvm.Cond.code x code maxLocals ret :: tables_1
/-- a 'code' word, met by the world's own term for the bytes: nothing is compared byte by byte -/
theorem code_word {y : MethodName} {bytes : ByteArray} {mx : Nat} {rt : Option FieldType} {a : Array Value} {s : State} {m : MethodId} {meth : Method} {c : Code} (h1 : s.methodNamed? y = some m) (h2 : s.vm.method? m = some meth) (h3 : meth.code = some c) (h4 : c.code = bytes)
    (h5 : (c.maxLocals == mx && c.exceptionTable.isEmpty && decide (c.maxStack ≤ mostOperands) && decide (meth.sig.returnType = rt) && !meth.locks && decide (parseMethodDescriptor y.desc = some meth.sig)) = true) : (Jvm.Cond.code y bytes mx rt).before a s = true := by
  simp only [Bool.and_eq_true, beq_iff_eq, Bool.not_eq_true', decide_eq_true_eq] at h5
  obtain ⟨⟨⟨⟨⟨g1, g2⟩, g3⟩, g4⟩, g5⟩, g6⟩ := h5
  simp [Cond.before, Cond.holds, Cond.value, h1, h2, h3, h4, g1, g2, g3, g4, g5, g6]
def isCode : Jvm.Cond → Bool
  | .code _ _ _ _ => true
  | _ => false
theorem all_split {L : List Jvm.Cond} {P : Jvm.Cond → Bool} (h1 : L.all (fun c => isCode c || P c) = true) (h2 : ∀ c ∈ L.filter isCode, P c = true) : L.all P = true := by
  refine List.all_eq_true.mpr fun c hc => ?_
  have h := List.all_eq_true.mp h1 c hc
  rcases Bool.eq_false_or_eq_true (isCode c) with hi | hi
  · exact h2 c (List.mem_filter.mpr ⟨hc, hi⟩)
  · simpa [hi] using h
set_option maxRecDepth 65536 in
theorem w_c0 : (Jvm.Cond.code x code maxLocals ret).before args0 about1 = true := code_word (m := ⟨1, 1⟩) (meth := k1m1) (c := k1c1) (by decide +kernel) rfl rfl rfl (by decide +kernel)
set_option maxRecDepth 65536 in
theorem w_c1 : (Jvm.Cond.code ({ cls := "com/example/girolog/girolog/files/TextDecoder", name := "codePoint", desc := "([BII)I" } : Jvm.MethodName) prog_77_method_11_code (5 : Nat) (Option.some Jvm.ClassFile.FieldType.int)).before args0 about1 = true := code_word (m := ⟨6, 0⟩) (meth := k6m0) (c := k6c0) (by decide +kernel) rfl rfl rfl (by decide +kernel)
def codes1 : List Jvm.Cond := [Jvm.Cond.code x code maxLocals ret, Jvm.Cond.code ({ cls := "com/example/girolog/girolog/files/TextDecoder", name := "codePoint", desc := "([BII)I" } : Jvm.MethodName) prog_77_method_11_code (5 : Nat) (Option.some Jvm.ClassFile.FieldType.int)]
set_option maxRecDepth 65536 in
theorem codes_eq : words1.filter isCode = codes1 := rfl
theorem w_codes : ∀ c ∈ words1.filter isCode, c.before args0 about1 = true := by
  rw [codes_eq]
  intro c hc
  simp only [codes1, List.mem_cons, List.not_mem_nil, or_false] at hc
  rcases hc with rfl | rfl
  · exact w_c0
  · exact w_c1
set_option maxRecDepth 65536 in
theorem w_t1 : words1.all (fun c => isCode c || c.before args0 about1) = true := by decide +kernel
theorem w_tables : (allAtoms (Jvm.Cond.code x code maxLocals ret :: tables_1)).before args0 about1 = true := by
  rw [allAtoms_all]
  show words1.all (fun c => c.before args0 about1) = true
  refine all_split ?_ w_codes
  rw [w_t1]
set_option maxRecDepth 65536 in
theorem w_case : (Jvm.Cond.and given_1 narrow_1).before args0 about1 = true := by decide +kernel
theorem w_applies : (headSpec (Jvm.Cond.code x code maxLocals ret :: tables_1) room_1).applies x e0.platform about1 = true :=
  (Spec.applies_iff w_frames).mpr ⟨w_running, w_runnable, w_alone, w_named, w_hears, w_ripe, w_room, w_tables⟩
theorem atStart : AtStart classFile x code maxLocals ret World_1 tables_1 room_1 Calls_1 rest_1 Pre_1 launch0 p0 e0 about1 theMethod args0 below0 :=
  ⟨lists_1, trivial, launch0.admits_env _ _ _, launch0.least_env, fairChoices_fair.cas, fairChoices_fair.clock, w_frames, w_args, w_heap, w_applies, trivial, trivial, w_case⟩
end start1
theorem witness_1 : WitnessClaimed_1 := ⟨start1.p0, start1.e0, start1.about1, start1.theMethod, start1.args0, start1.below0, start1.atStart⟩
end Jvm.Pilot.@@N@@

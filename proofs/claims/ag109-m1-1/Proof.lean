import JvmDerived
import JvmDerived.Pilot.@@N@@Statement
import JvmDerived.Pilot.@@N@@Code
set_option linter.unusedVariables false
set_option linter.unusedSimpArgs false
namespace Jvm.Pilot.@@N@@
open Jvm Jvm.ClassFile Sem Op Lib Jvm.Free Jvm.Stand Jvm.LawKit Jvm.RoadKit Bundle Jvm.Pilot.@@N@@.Jvm.D
/-! OWN KIT: the walk's steps in one form: 'own_A' where the run stands, 'own_E' that it ends as G says. -/
def own_E (p : Program) (e : Env) (below : List Frame) (G : Outcome → State → Prop) (A : State) : Prop := ∃ s₂ o, Steps p.tables e below A s₂ ∧ s₂.status = .running ∧ Ended s₂ below o ∧ G o s₂
def own_A (l : Launch) (Z : State) (own : String) (cb : ByteArray) (ml n0 : Nat) (p : Program) (e : Env) (R : Room) (s : State) (m : MethodId) (args : Array Value) (below : List Frame) (meth : Method) (c : Code) (T : State) (h : Heap) (locs : List Loc) (cells slots : Nat) : Prop :=
  Stand p l e R s m args below meth c T locs cells slots ∧ p.tables.exec = Jvm.exec ∧ Z.Warmed39 s.vm ∧ c.code = cb ∧ c.maxLocals = ml ∧ s.vm.findClass own = some m.cls ∧ T.heap = h ∧ Fr n0 locs ∧ n0 ≤ h.size ∧ meth.locks = false
def own_G (R : Room) (s : State) (n0 : Nat) (Q : Option Value → Heap → Prop) (o : Outcome) (U : State) : Prop := ∃ v L, o = .returned v ∧ (Q v U.heap ∧ Fr n0 L ∧ n0 ≤ U.heap.size) ∧ FrameEnd s o U L R.cells R.slots
def own_Con (l : Launch) (Z : State) (y : MethodName) (cb : ByteArray) (ml : Nat) (ret : Option FieldType) (rm : Room) (as' : Array Value) (h0 : Heap) (n0 : Nat) (Q : Option Value → Heap → Prop) : Prop :=
  ∀ ws, MetFree l y (head1 (Jvm.Cond.code y cb ml ret :: ws) rm) (fun a U => a = as' ∧ Z.Warmed39 U.vm ∧ U.heap = h0) (fun _ _ _ _ _ => True) (fun _ U o U' => ∃ v L, o = .returned v ∧ (Q v U'.heap ∧ Fr n0 L ∧ n0 ≤ U'.heap.size) ∧ FrameEnd U o U' L rm.cells rm.slots)
theorem own_b255 (x : Int32) : x &&& 255 = x.toInt8.toInt32 &&& 255 := by
  apply Int32.toBitVec_inj.mp
  rw [Int32.toBitVec_and, Int32.toBitVec_and]
  show x.toBitVec &&& (BitVec.ofNat 32 255) = (x.toBitVec.signExtend 8).signExtend 32 &&& (BitVec.ofNat 32 255)
  apply BitVec.eq_of_getLsbD_eq
  intro i hi
  rw [BitVec.getLsbD_and, BitVec.getLsbD_and, BitVec.getLsbD_signExtend, BitVec.getLsbD_signExtend]
  by_cases h : i < 8
  · simp [h, hi]
  · have : ((BitVec.ofNat 32 255)).getLsbD i = false := by
      have h2 : 8 ≤ i := by omega
      have : ((BitVec.ofNat 32 255)).getLsbD i = Nat.testBit 255 i := by simp [BitVec.getLsbD]
      rw [this]; exact Nat.testBit_lt_two_pow (Nat.lt_of_lt_of_le (by decide : 255 < 2^8) (Nat.pow_le_pow_right (by decide) h2))
    simp [this]
theorem own_lremE (x y : Int64) : x - (x / y) * y = x % y := by
  apply Int64.toInt_inj.mp
  have h1 := Int64.le_toInt (x % y)
  have h2 := Int64.toInt_lt (x % y)
  rw [Int64.toInt_sub, Int64.toInt_mul, Int64.toInt_div, Int.bmod_mul_bmod, Int.sub_bmod_bmod, Int.mul_comm (x.toInt.tdiv y.toInt), ← Int.tmod_def, ← Int64.toInt_mod]
  exact Int.bmod_eq_of_le_mul_two (by omega) (by omega)
theorem own_addc (x a b c : Int32) (h : a + b = c) : (x + a) + b = x + c := by rw [Int32.add_assoc, h]
theorem own_nb (t : Int32) : nar .byte (t.toInt8.toInt32) = t.toInt8.toInt32 := by
  show (t.toInt8.toInt32).toInt8.toInt32 = t.toInt8.toInt32
  simp
section OwnKit
variable {l : Launch} {Z : State} {a0 : Array Value} {own : String} {cb : ByteArray} {ml n0 : Nat} {p : Program} {e : Env} {R : Room} {s : State} {m : MethodId} {args : Array Value} {below : List Frame} {meth : Method} {c : Code} {T : State} {h h' : Heap} {locs : List Loc} {cells slots : Nat} {G : Outcome → State → Prop} {pc pc' : Nat} {Ls Ls' : Array Slot} {S : List Value}
theorem own_go {A B : State} (h : ∀ t, Steps p.tables e below B t → Steps p.tables e below A t) (k : own_E p e below G B) : own_E p e below G A := by
  obtain ⟨s₂, o, h1, r⟩ := k; exact ⟨s₂, o, h _ h1, r⟩
theorem own_enter {y : MethodName} {ret : Option FieldType} {as' : Array Value} {h0 : Heap} {Q : Option Value → Heap → Prop} (hpl : plainFor y = true) (hsz : n0 ≤ h0.size) (hef : ∀ m, entryFrame m as' ml = mkF m 0 Ls [])
    (k : ∀ p e s m below meth c T, own_A l Z y.cls cb ml n0 p e R s m as' below meth c T h0 [] 0 0 → meth.sig.returnType = ret → meth.name = y.name → own_E p e below (own_G R s n0 Q) (T.setTop (mkF m 0 Ls []))) : own_Con l Z y cb ml ret R as' h0 n0 Q := by
  intro ws
  refine MetFree.of_bodySF hpl hisR ?_
  intro p e s m args below meth c s₁ Bd hml0 hP hK
  obtain ⟨rfl, hZ, hh⟩ := hP
  have e0 : s₁.heap = h0 := by rw [← hh, Bd.state]; rfl
  have K := k p e s m below meth c s₁ ⟨Stand.of_body Bd, Bd.exec, hZ, Bd.bytes, hml0, findClass_of_methodNamed Bd.named, e0, Fr.nil n0, hsz, Bd.notSynchronized⟩ Bd.returns (name_of_methodNamed Bd.named Bd.method).1
  obtain ⟨s₂, o, h1, h2, h3, h4⟩ := K
  exact ⟨s₂, o, castTop (hef m) h1, h2, h3, h4⟩
theorem own_iret (X : own_A l Z own cb ml n0 p e R s m args below meth c T h locs cells slots) {t : FieldType} {z w : Int32} {Q : Option Value → Heap → Prop} (hr : meth.sig.returnType = some t) (ht : t = .int ∨ t = .boolean ∨ t = .byte ∨ t = .char ∨ t = .short) (hd : decode cb pc = .ok (.ireturn, 1)) (hz : nar t z = w) (hc : cells ≤ R.cells) (hs : slots ≤ R.slots) (hQ : Q (some (.int w)) h) :
    own_E p e below (own_G R s n0 Q) (T.setTop (mkF m pc Ls (.int z :: S))) := by
  obtain ⟨X, hx, hZ, hby, hml, hown, rfl, N, hsz, hlk⟩ := X
  subst hz
  obtain ⟨fs, hl, hrun, hended, hW, hsame⟩ := X.leave (v := some (.int (nar t z))) (fun q => by rw [hr] at q; cases q) hlk
  refine ⟨_, _, ?_, hrun, hended, _, locs, rfl, ⟨hQ, N, hsz⟩, ⟨_, rfl⟩, hW, hsame.mono hc hs⟩
  rcases ht with rfl | ht
  · exact retOut X hx hr rfl (Or.inl ⟨rfl, Or.inl rfl, z, rfl⟩) (hb hby hd) hl
  · exact retN X hx hr ht (hb hby hd) hl
theorem own_lret (X : own_A l Z own cb ml n0 p e R s m args below meth c T h locs cells slots) {z : Int64} {Q : Option Value → Heap → Prop} (hr : meth.sig.returnType = some .long) (hd : decode cb pc = .ok (.lreturn, 1)) (hc : cells ≤ R.cells) (hs : slots ≤ R.slots) (hQ : Q (some (.long z)) h) :
    own_E p e below (own_G R s n0 Q) (T.setTop (mkF m pc Ls (.long z :: S))) := by
  obtain ⟨X, hx, hZ, hby, hml, hown, rfl, N, hsz, hlk⟩ := X
  obtain ⟨fs, hl, hrun, hended, hW, hsame⟩ := X.leave (v := some (.long z)) (fun q => by rw [hr] at q; cases q) hlk
  exact ⟨_, _, retOut X hx hr rfl (Or.inr (Or.inl ⟨rfl, rfl, z, rfl⟩)) (hb hby hd) hl, hrun, hended, _, locs, rfl, ⟨hQ, N, hsz⟩, ⟨_, rfl⟩, hW, hsame.mono hc hs⟩
theorem own_aret (X : own_A l Z own cb ml n0 p e R s m args below meth c T h locs cells slots) {t : FieldType} {v : Value} {Q : Option Value → Heap → Prop} (hr : meth.sig.returnType = some t) (ht : t.isReference = true) (hv : v.isRef = true) (hn : narrow t v = v) (hd : decode cb pc = .ok (.areturn, 1)) (hc : cells ≤ R.cells) (hs : slots ≤ R.slots) (hQ : Q (some v) h) :
    own_E p e below (own_G R s n0 Q) (T.setTop (mkF m pc Ls (v :: S))) := by
  obtain ⟨X, hx, hZ, hby, hml, hown, rfl, N, hsz, hlk⟩ := X
  obtain ⟨fs, hl, hrun, hended, hW, hsame⟩ := X.leave (v := some v) (fun q => by rw [hr] at q; cases q) hlk
  exact ⟨_, _, retOut X hx hr hn (Or.inr (Or.inr (Or.inr (Or.inr ⟨rfl, ht, hv⟩)))) (hb hby hd) hl, hrun, hended, _, locs, rfl, ⟨hQ, N, hsz⟩, ⟨_, rfl⟩, hW, hsame.mono hc hs⟩
theorem own_vret (X : own_A l Z own cb ml n0 p e R s m args below meth c T h locs cells slots) {Q : Option Value → Heap → Prop} (hr : meth.sig.returnType = none) (hd : decode cb pc = .ok (.return_, 1)) (hc : cells ≤ R.cells) (hs : slots ≤ R.slots) (hQ : Q none h) :
    own_E p e below (own_G R s n0 Q) (T.setTop (mkF m pc Ls [])) := by
  obtain ⟨X, hx, hZ, hby, hml, hown, rfl, N, hsz, hlk⟩ := X
  obtain ⟨fs, hl, hrun, hended, hW, hsame⟩ := X.leave (v := none) (fun _ => rfl) hlk
  exact ⟨_, _, X.returnOut hx hr (hb hby hd) hl, hrun, hended, _, locs, rfl, ⟨hQ, N, hsz⟩, ⟨_, rfl⟩, hW, hsame.mono hc hs⟩
theorem own_iloadN (X : own_A l Z own cb ml n0 p e R s m args below meth c T h locs cells slots) {i : Fin 4} {v : Int32} (hd : decode cb pc = .ok (.iload_n i, 1)) (hp : pc + 1 = pc') (hl : Ls[i.val]? = some (.val (.int v))) (k : own_E p e below G (T.setTop (mkF m pc' Ls (.int v :: S)))) : own_E p e below G (T.setTop (mkF m pc Ls S)) := by
  subst hp; exact own_go (fun _ => XS.iloadN X.1.here X.2.1 rfl (hb X.2.2.2.1 hd) hl) k
theorem own_iload (X : own_A l Z own cb ml n0 p e R s m args below meth c T h locs cells slots) {i : Nat} {v : Int32} (hd : decode cb pc = .ok (.iload i, 2)) (hp : pc + 2 = pc') (hl : Ls[i]? = some (.val (.int v))) (k : own_E p e below G (T.setTop (mkF m pc' Ls (.int v :: S)))) : own_E p e below G (T.setTop (mkF m pc Ls S)) := by
  subst hp; exact own_go (fun _ => XS.iload X.1.here X.2.1 rfl (hb X.2.2.2.1 hd) hl) k
theorem own_istoreN (X : own_A l Z own cb ml n0 p e R s m args below meth c T h locs cells slots) {i : Fin 4} {x y : Int32} (hd : decode cb pc = .ok (.istore_n i, 1)) (hp : pc + 1 = pc') (hv : x = y) (hl : storeLocals Ls i.val (.int y) = some Ls') (k : own_E p e below G (T.setTop (mkF m pc' Ls' S))) : own_E p e below G (T.setTop (mkF m pc Ls (.int x :: S))) := by
  subst hp; subst hv; exact own_go (fun _ => XS.istoreN X.1.here X.2.1 rfl (hb X.2.2.2.1 hd) rfl hl) k
theorem own_istore (X : own_A l Z own cb ml n0 p e R s m args below meth c T h locs cells slots) {i : Nat} {x y : Int32} (hd : decode cb pc = .ok (.istore i, 2)) (hp : pc + 2 = pc') (hv : x = y) (hl : storeLocals Ls i (.int y) = some Ls') (k : own_E p e below G (T.setTop (mkF m pc' Ls' S))) : own_E p e below G (T.setTop (mkF m pc Ls (.int x :: S))) := by
  subst hp; subst hv; exact own_go (fun _ => XS.istore X.1.here X.2.1 rfl (hb X.2.2.2.1 hd) rfl hl) k
theorem own_lloadN (X : own_A l Z own cb ml n0 p e R s m args below meth c T h locs cells slots) {i : Fin 4} {v : Int64} (hd : decode cb pc = .ok (.lload_n i, 1)) (hp : pc + 1 = pc') (hl : Ls[i.val]? = some (.val (.long v))) (k : own_E p e below G (T.setTop (mkF m pc' Ls (.long v :: S)))) : own_E p e below G (T.setTop (mkF m pc Ls S)) := by
  subst hp; exact own_go (fun _ => XS.lloadN X.1.here X.2.1 rfl (hb X.2.2.2.1 hd) hl) k
theorem own_lload (X : own_A l Z own cb ml n0 p e R s m args below meth c T h locs cells slots) {i : Nat} {v : Int64} (hd : decode cb pc = .ok (.lload i, 2)) (hp : pc + 2 = pc') (hl : Ls[i]? = some (.val (.long v))) (k : own_E p e below G (T.setTop (mkF m pc' Ls (.long v :: S)))) : own_E p e below G (T.setTop (mkF m pc Ls S)) := by
  subst hp; exact own_go (fun _ => XS.lload X.1.here X.2.1 rfl (hb X.2.2.2.1 hd) hl) k
theorem own_lstoreN (X : own_A l Z own cb ml n0 p e R s m args below meth c T h locs cells slots) {i : Fin 4} {x y : Int64} (hd : decode cb pc = .ok (.lstore_n i, 1)) (hp : pc + 1 = pc') (hv : x = y) (hl : storeLocals Ls i.val (.long y) = some Ls') (k : own_E p e below G (T.setTop (mkF m pc' Ls' S))) : own_E p e below G (T.setTop (mkF m pc Ls (.long x :: S))) := by
  subst hp; subst hv; exact own_go (fun _ => XS.lstoreN X.1.here X.2.1 rfl (hb X.2.2.2.1 hd) rfl hl) k
theorem own_lstore (X : own_A l Z own cb ml n0 p e R s m args below meth c T h locs cells slots) {i : Nat} {x y : Int64} (hd : decode cb pc = .ok (.lstore i, 2)) (hp : pc + 2 = pc') (hv : x = y) (hl : storeLocals Ls i (.long y) = some Ls') (k : own_E p e below G (T.setTop (mkF m pc' Ls' S))) : own_E p e below G (T.setTop (mkF m pc Ls (.long x :: S))) := by
  subst hp; subst hv; exact own_go (fun _ => XS.lstore X.1.here X.2.1 rfl (hb X.2.2.2.1 hd) rfl hl) k
theorem own_aloadN (X : own_A l Z own cb ml n0 p e R s m args below meth c T h locs cells slots) {i : Fin 4} {v : Value} (hd : decode cb pc = .ok (.aload_n i, 1)) (hp : pc + 1 = pc') (hl : Ls[i.val]? = some (.val v)) (hr : v.isRef = true) (k : own_E p e below G (T.setTop (mkF m pc' Ls (v :: S)))) : own_E p e below G (T.setTop (mkF m pc Ls S)) := by
  subst hp; exact own_go (fun _ => XS.aloadN X.1.here X.2.1 rfl (hb X.2.2.2.1 hd) hl hr) k
theorem own_aload (X : own_A l Z own cb ml n0 p e R s m args below meth c T h locs cells slots) {i : Nat} {v : Value} (hd : decode cb pc = .ok (.aload i, 2)) (hp : pc + 2 = pc') (hl : Ls[i]? = some (.val v)) (hr : v.isRef = true) (k : own_E p e below G (T.setTop (mkF m pc' Ls (v :: S)))) : own_E p e below G (T.setTop (mkF m pc Ls S)) := by
  subst hp; exact own_go (fun _ => XS.aload X.1.here X.2.1 rfl (hb X.2.2.2.1 hd) hl hr) k
theorem own_astoreN (X : own_A l Z own cb ml n0 p e R s m args below meth c T h locs cells slots) {i : Fin 4} {v : Value} (hd : decode cb pc = .ok (.astore_n i, 1)) (hp : pc + 1 = pc') (hr : v.isRef = true) (hl : storeLocals Ls i.val v = some Ls') (k : own_E p e below G (T.setTop (mkF m pc' Ls' S))) : own_E p e below G (T.setTop (mkF m pc Ls (v :: S))) := by
  subst hp; exact own_go (fun _ => XS.astoreN X.1.here X.2.1 rfl (hb X.2.2.2.1 hd) rfl hr hl) k
theorem own_astore (X : own_A l Z own cb ml n0 p e R s m args below meth c T h locs cells slots) {i : Nat} {v : Value} (hd : decode cb pc = .ok (.astore i, 2)) (hp : pc + 2 = pc') (hr : v.isRef = true) (hl : storeLocals Ls i v = some Ls') (k : own_E p e below G (T.setTop (mkF m pc' Ls' S))) : own_E p e below G (T.setTop (mkF m pc Ls (v :: S))) := by
  subst hp; exact own_go (fun _ => XS.astore X.1.here X.2.1 rfl (hb X.2.2.2.1 hd) rfl hr hl) k
theorem own_iconst (X : own_A l Z own cb ml n0 p e R s m args below meth c T h locs cells slots) {i : Int} {z : Int32} (hd : decode cb pc = .ok (.iconst i, 1)) (hp : pc + 1 = pc') (hz : Int32.ofInt i = z) (k : own_E p e below G (T.setTop (mkF m pc' Ls (.int z :: S)))) : own_E p e below G (T.setTop (mkF m pc Ls S)) := by
  subst hp; subst hz; exact own_go (fun _ => XS.iconst X.1.here X.2.1 rfl (hb X.2.2.2.1 hd)) k
theorem own_bipush (X : own_A l Z own cb ml n0 p e R s m args below meth c T h locs cells slots) {i : Int} {z : Int32} (hd : decode cb pc = .ok (.bipush i, 2)) (hp : pc + 2 = pc') (hz : (Int8.ofInt i).toInt32 = z) (k : own_E p e below G (T.setTop (mkF m pc' Ls (.int z :: S)))) : own_E p e below G (T.setTop (mkF m pc Ls S)) := by
  subst hp; subst hz; exact own_go (fun _ => XS.bipush X.1.here X.2.1 rfl (hb X.2.2.2.1 hd)) k
theorem own_sipush (X : own_A l Z own cb ml n0 p e R s m args below meth c T h locs cells slots) {i : Int} {z : Int32} (hd : decode cb pc = .ok (.sipush i, 3)) (hp : pc + 3 = pc') (hz : (Int16.ofInt i).toInt32 = z) (k : own_E p e below G (T.setTop (mkF m pc' Ls (.int z :: S)))) : own_E p e below G (T.setTop (mkF m pc Ls S)) := by
  subst hp; subst hz; exact own_go (fun _ => XS.sipush X.1.here X.2.1 rfl (hb X.2.2.2.1 hd)) k
theorem own_lconst (X : own_A l Z own cb ml n0 p e R s m args below meth c T h locs cells slots) {i : Fin 2} {z : Int64} (hd : decode cb pc = .ok (.lconst i, 1)) (hp : pc + 1 = pc') (hz : Int64.ofNat i = z) (k : own_E p e below G (T.setTop (mkF m pc' Ls (.long z :: S)))) : own_E p e below G (T.setTop (mkF m pc Ls S)) := by
  subst hp; subst hz; exact own_go (fun _ => XS.lconst X.1.here X.2.1 rfl (hb X.2.2.2.1 hd)) k
theorem own_anull (X : own_A l Z own cb ml n0 p e R s m args below meth c T h locs cells slots)  (hd : decode cb pc = .ok (.aconst_null, 1)) (hp : pc + 1 = pc') (k : own_E p e below G (T.setTop (mkF m pc' Ls (.null :: S)))) : own_E p e below G (T.setTop (mkF m pc Ls S)) := by
  subst hp; exact own_go (fun _ => XS.aconstNull X.1.here X.2.1 rfl (hb X.2.2.2.1 hd)) k
theorem own_iadd (X : own_A l Z own cb ml n0 p e R s m args below meth c T h locs cells slots) {x y z : Int32} (hd : decode cb pc = .ok (.iadd, 1)) (hp : pc + 1 = pc') (hz : x + y = z) (k : own_E p e below G (T.setTop (mkF m pc' Ls (.int z :: S)))) : own_E p e below G (T.setTop (mkF m pc Ls (.int y :: .int x :: S))) := by
  subst hp; subst hz; exact own_go (fun _ => XS.iadd X.1.here X.2.1 rfl (hb X.2.2.2.1 hd) rfl) k
theorem own_isub (X : own_A l Z own cb ml n0 p e R s m args below meth c T h locs cells slots) {x y z : Int32} (hd : decode cb pc = .ok (.isub, 1)) (hp : pc + 1 = pc') (hz : x - y = z) (k : own_E p e below G (T.setTop (mkF m pc' Ls (.int z :: S)))) : own_E p e below G (T.setTop (mkF m pc Ls (.int y :: .int x :: S))) := by
  subst hp; subst hz; exact own_go (fun _ => XS.isub X.1.here X.2.1 rfl (hb X.2.2.2.1 hd) rfl) k
theorem own_imul (X : own_A l Z own cb ml n0 p e R s m args below meth c T h locs cells slots) {x y z : Int32} (hd : decode cb pc = .ok (.imul, 1)) (hp : pc + 1 = pc') (hz : x * y = z) (k : own_E p e below G (T.setTop (mkF m pc' Ls (.int z :: S)))) : own_E p e below G (T.setTop (mkF m pc Ls (.int y :: .int x :: S))) := by
  subst hp; subst hz; exact own_go (fun _ => XS.imul X.1.here X.2.1 rfl (hb X.2.2.2.1 hd) rfl) k
theorem own_iand (X : own_A l Z own cb ml n0 p e R s m args below meth c T h locs cells slots) {x y z : Int32} (hd : decode cb pc = .ok (.iand, 1)) (hp : pc + 1 = pc') (hz : x &&& y = z) (k : own_E p e below G (T.setTop (mkF m pc' Ls (.int z :: S)))) : own_E p e below G (T.setTop (mkF m pc Ls (.int y :: .int x :: S))) := by
  subst hp; subst hz; exact own_go (fun _ => XS.iand X.1.here X.2.1 rfl (hb X.2.2.2.1 hd) rfl) k
theorem own_ior (X : own_A l Z own cb ml n0 p e R s m args below meth c T h locs cells slots) {x y z : Int32} (hd : decode cb pc = .ok (.ior, 1)) (hp : pc + 1 = pc') (hz : x ||| y = z) (k : own_E p e below G (T.setTop (mkF m pc' Ls (.int z :: S)))) : own_E p e below G (T.setTop (mkF m pc Ls (.int y :: .int x :: S))) := by
  subst hp; subst hz; exact own_go (fun _ => XS.ior X.1.here X.2.1 rfl (hb X.2.2.2.1 hd) rfl) k
theorem own_ixor (X : own_A l Z own cb ml n0 p e R s m args below meth c T h locs cells slots) {x y z : Int32} (hd : decode cb pc = .ok (.ixor, 1)) (hp : pc + 1 = pc') (hz : x ^^^ y = z) (k : own_E p e below G (T.setTop (mkF m pc' Ls (.int z :: S)))) : own_E p e below G (T.setTop (mkF m pc Ls (.int y :: .int x :: S))) := by
  subst hp; subst hz; exact own_go (fun _ => XS.ixor X.1.here X.2.1 rfl (hb X.2.2.2.1 hd) rfl) k
theorem own_ishl (X : own_A l Z own cb ml n0 p e R s m args below meth c T h locs cells slots) {x y z : Int32} (hd : decode cb pc = .ok (.ishl, 1)) (hp : pc + 1 = pc') (hz : x <<< (y &&& 31) = z) (k : own_E p e below G (T.setTop (mkF m pc' Ls (.int z :: S)))) : own_E p e below G (T.setTop (mkF m pc Ls (.int y :: .int x :: S))) := by
  subst hp; subst hz; exact own_go (fun _ => XS.ishl X.1.here X.2.1 rfl (hb X.2.2.2.1 hd) rfl) k
theorem own_ishr (X : own_A l Z own cb ml n0 p e R s m args below meth c T h locs cells slots) {x y z : Int32} (hd : decode cb pc = .ok (.ishr, 1)) (hp : pc + 1 = pc') (hz : x >>> (y &&& 31) = z) (k : own_E p e below G (T.setTop (mkF m pc' Ls (.int z :: S)))) : own_E p e below G (T.setTop (mkF m pc Ls (.int y :: .int x :: S))) := by
  subst hp; subst hz; exact own_go (fun _ => XS.ishr X.1.here X.2.1 rfl (hb X.2.2.2.1 hd) rfl) k
theorem own_iushr (X : own_A l Z own cb ml n0 p e R s m args below meth c T h locs cells slots) {x y z : Int32} (hd : decode cb pc = .ok (.iushr, 1)) (hp : pc + 1 = pc') (hz : (x.toUInt32 >>> (y &&& 31).toUInt32).toInt32 = z) (k : own_E p e below G (T.setTop (mkF m pc' Ls (.int z :: S)))) : own_E p e below G (T.setTop (mkF m pc Ls (.int y :: .int x :: S))) := by
  subst hp; subst hz; exact own_go (fun _ => XS.iushr X.1.here X.2.1 rfl (hb X.2.2.2.1 hd) rfl) k
theorem own_ladd (X : own_A l Z own cb ml n0 p e R s m args below meth c T h locs cells slots) {x y z : Int64} (hd : decode cb pc = .ok (.ladd, 1)) (hp : pc + 1 = pc') (hz : x + y = z) (k : own_E p e below G (T.setTop (mkF m pc' Ls (.long z :: S)))) : own_E p e below G (T.setTop (mkF m pc Ls (.long y :: .long x :: S))) := by
  subst hp; subst hz; exact own_go (fun _ => XS.ladd X.1.here X.2.1 rfl (hb X.2.2.2.1 hd) rfl) k
theorem own_lsub (X : own_A l Z own cb ml n0 p e R s m args below meth c T h locs cells slots) {x y z : Int64} (hd : decode cb pc = .ok (.lsub, 1)) (hp : pc + 1 = pc') (hz : x - y = z) (k : own_E p e below G (T.setTop (mkF m pc' Ls (.long z :: S)))) : own_E p e below G (T.setTop (mkF m pc Ls (.long y :: .long x :: S))) := by
  subst hp; subst hz; exact own_go (fun _ => XS.lsub X.1.here X.2.1 rfl (hb X.2.2.2.1 hd) rfl) k
theorem own_lmul (X : own_A l Z own cb ml n0 p e R s m args below meth c T h locs cells slots) {x y z : Int64} (hd : decode cb pc = .ok (.lmul, 1)) (hp : pc + 1 = pc') (hz : x * y = z) (k : own_E p e below G (T.setTop (mkF m pc' Ls (.long z :: S)))) : own_E p e below G (T.setTop (mkF m pc Ls (.long y :: .long x :: S))) := by
  subst hp; subst hz; exact own_go (fun _ => XS.lmul X.1.here X.2.1 rfl (hb X.2.2.2.1 hd) rfl) k
theorem own_land (X : own_A l Z own cb ml n0 p e R s m args below meth c T h locs cells slots) {x y z : Int64} (hd : decode cb pc = .ok (.land, 1)) (hp : pc + 1 = pc') (hz : x &&& y = z) (k : own_E p e below G (T.setTop (mkF m pc' Ls (.long z :: S)))) : own_E p e below G (T.setTop (mkF m pc Ls (.long y :: .long x :: S))) := by
  subst hp; subst hz; exact own_go (fun _ => XS.land X.1.here X.2.1 rfl (hb X.2.2.2.1 hd) rfl) k
theorem own_lor (X : own_A l Z own cb ml n0 p e R s m args below meth c T h locs cells slots) {x y z : Int64} (hd : decode cb pc = .ok (.lor, 1)) (hp : pc + 1 = pc') (hz : x ||| y = z) (k : own_E p e below G (T.setTop (mkF m pc' Ls (.long z :: S)))) : own_E p e below G (T.setTop (mkF m pc Ls (.long y :: .long x :: S))) := by
  subst hp; subst hz; exact own_go (fun _ => XS.lor X.1.here X.2.1 rfl (hb X.2.2.2.1 hd) rfl) k
theorem own_lxor (X : own_A l Z own cb ml n0 p e R s m args below meth c T h locs cells slots) {x y z : Int64} (hd : decode cb pc = .ok (.lxor, 1)) (hp : pc + 1 = pc') (hz : x ^^^ y = z) (k : own_E p e below G (T.setTop (mkF m pc' Ls (.long z :: S)))) : own_E p e below G (T.setTop (mkF m pc Ls (.long y :: .long x :: S))) := by
  subst hp; subst hz; exact own_go (fun _ => XS.lxor X.1.here X.2.1 rfl (hb X.2.2.2.1 hd) rfl) k
theorem own_lshl (X : own_A l Z own cb ml n0 p e R s m args below meth c T h locs cells slots) {x z : Int64} {y : Int32} (hd : decode cb pc = .ok (.lshl, 1)) (hp : pc + 1 = pc') (hz : x <<< (y &&& 0x3f).toInt64 = z) (k : own_E p e below G (T.setTop (mkF m pc' Ls (.long z :: S)))) : own_E p e below G (T.setTop (mkF m pc Ls (.int y :: .long x :: S))) := by
  subst hp; subst hz; exact own_go (fun _ => XS.lshl X.1.here X.2.1 rfl (hb X.2.2.2.1 hd) rfl) k
theorem own_lshr (X : own_A l Z own cb ml n0 p e R s m args below meth c T h locs cells slots) {x z : Int64} {y : Int32} (hd : decode cb pc = .ok (.lshr, 1)) (hp : pc + 1 = pc') (hz : x >>> (y &&& 0x3f).toInt64 = z) (k : own_E p e below G (T.setTop (mkF m pc' Ls (.long z :: S)))) : own_E p e below G (T.setTop (mkF m pc Ls (.int y :: .long x :: S))) := by
  subst hp; subst hz; exact own_go (fun _ => XS.lshr X.1.here X.2.1 rfl (hb X.2.2.2.1 hd) rfl) k
theorem own_lushr (X : own_A l Z own cb ml n0 p e R s m args below meth c T h locs cells slots) {x z : Int64} {y : Int32} (hd : decode cb pc = .ok (.lushr, 1)) (hp : pc + 1 = pc') (hz : (x.toUInt64 >>> (y &&& 0x3f).toInt64.toUInt64).toInt64 = z) (k : own_E p e below G (T.setTop (mkF m pc' Ls (.long z :: S)))) : own_E p e below G (T.setTop (mkF m pc Ls (.int y :: .long x :: S))) := by
  subst hp; subst hz; exact own_go (fun _ => XS.lushr X.1.here X.2.1 rfl (hb X.2.2.2.1 hd) rfl) k
theorem own_idiv (X : own_A l Z own cb ml n0 p e R s m args below meth c T h locs cells slots) {x y z : Int32} (hd : decode cb pc = .ok (.idiv, 1)) (hp : pc + 1 = pc') (hy : y ≠ 0) (hz : x / y = z) (k : own_E p e below G (T.setTop (mkF m pc' Ls (.int z :: S)))) : own_E p e below G (T.setTop (mkF m pc Ls (.int y :: .int x :: S))) := by
  subst hp; subst hz; exact own_go (fun _ => XS.idiv X.1.here X.2.1 rfl (hb X.2.2.2.1 hd) rfl hy) k
theorem own_irem (X : own_A l Z own cb ml n0 p e R s m args below meth c T h locs cells slots) {x y z : Int32} (hd : decode cb pc = .ok (.irem, 1)) (hp : pc + 1 = pc') (hy : y ≠ 0) (hz : x % y = z) (k : own_E p e below G (T.setTop (mkF m pc' Ls (.int z :: S)))) : own_E p e below G (T.setTop (mkF m pc Ls (.int y :: .int x :: S))) := by
  subst hp; subst hz; exact own_go (fun _ => iremM X.1 X.2.1 rfl (hb X.2.2.2.1 hd) rfl hy) k
theorem own_ldiv (X : own_A l Z own cb ml n0 p e R s m args below meth c T h locs cells slots) {x y z : Int64} (hd : decode cb pc = .ok (.ldiv, 1)) (hp : pc + 1 = pc') (hy : y ≠ 0) (hz : x / y = z) (k : own_E p e below G (T.setTop (mkF m pc' Ls (.long z :: S)))) : own_E p e below G (T.setTop (mkF m pc Ls (.long y :: .long x :: S))) := by
  subst hp; subst hz; exact own_go (fun _ => XS.ldiv X.1.here X.2.1 rfl (hb X.2.2.2.1 hd) rfl hy) k
theorem own_lrem (X : own_A l Z own cb ml n0 p e R s m args below meth c T h locs cells slots) {x y z : Int64} (hd : decode cb pc = .ok (.lrem, 1)) (hp : pc + 1 = pc') (hy : y ≠ 0) (hz : x - (x / y) * y = z) (k : own_E p e below G (T.setTop (mkF m pc' Ls (.long z :: S)))) : own_E p e below G (T.setTop (mkF m pc Ls (.long y :: .long x :: S))) := by
  subst hp; subst hz; exact own_go (fun _ => XS.lrem X.1.here X.2.1 rfl (hb X.2.2.2.1 hd) rfl hy) k
theorem own_ineg (X : own_A l Z own cb ml n0 p e R s m args below meth c T h locs cells slots) {x : Int32} {z : Int32} (hd : decode cb pc = .ok (.ineg, 1)) (hp : pc + 1 = pc') (hz : -x = z) (k : own_E p e below G (T.setTop (mkF m pc' Ls (.int z :: S)))) : own_E p e below G (T.setTop (mkF m pc Ls (.int x :: S))) := by
  subst hp; subst hz; exact own_go (fun _ => XS.ineg X.1.here X.2.1 rfl (hb X.2.2.2.1 hd) rfl) k
theorem own_lneg (X : own_A l Z own cb ml n0 p e R s m args below meth c T h locs cells slots) {x : Int64} {z : Int64} (hd : decode cb pc = .ok (.lneg, 1)) (hp : pc + 1 = pc') (hz : -x = z) (k : own_E p e below G (T.setTop (mkF m pc' Ls (.long z :: S)))) : own_E p e below G (T.setTop (mkF m pc Ls (.long x :: S))) := by
  subst hp; subst hz; exact own_go (fun _ => XS.lneg X.1.here X.2.1 rfl (hb X.2.2.2.1 hd) rfl) k
theorem own_i2l (X : own_A l Z own cb ml n0 p e R s m args below meth c T h locs cells slots) {x : Int32} {z : Int64} (hd : decode cb pc = .ok (.i2l, 1)) (hp : pc + 1 = pc') (hz : x.toInt64 = z) (k : own_E p e below G (T.setTop (mkF m pc' Ls (.long z :: S)))) : own_E p e below G (T.setTop (mkF m pc Ls (.int x :: S))) := by
  subst hp; subst hz; exact own_go (fun _ => XS.i2l X.1.here X.2.1 rfl (hb X.2.2.2.1 hd) rfl) k
theorem own_l2i (X : own_A l Z own cb ml n0 p e R s m args below meth c T h locs cells slots) {x : Int64} {z : Int32} (hd : decode cb pc = .ok (.l2i, 1)) (hp : pc + 1 = pc') (hz : x.toInt32 = z) (k : own_E p e below G (T.setTop (mkF m pc' Ls (.int z :: S)))) : own_E p e below G (T.setTop (mkF m pc Ls (.long x :: S))) := by
  subst hp; subst hz; exact own_go (fun _ => XS.l2i X.1.here X.2.1 rfl (hb X.2.2.2.1 hd) rfl) k
theorem own_i2b (X : own_A l Z own cb ml n0 p e R s m args below meth c T h locs cells slots) {x : Int32} {z : Int32} (hd : decode cb pc = .ok (.i2b, 1)) (hp : pc + 1 = pc') (hz : x.toInt8.toInt32 = z) (k : own_E p e below G (T.setTop (mkF m pc' Ls (.int z :: S)))) : own_E p e below G (T.setTop (mkF m pc Ls (.int x :: S))) := by
  subst hp; subst hz; exact own_go (fun _ => XS.i2b X.1.here X.2.1 rfl (hb X.2.2.2.1 hd) rfl) k
theorem own_i2s (X : own_A l Z own cb ml n0 p e R s m args below meth c T h locs cells slots) {x : Int32} {z : Int32} (hd : decode cb pc = .ok (.i2s, 1)) (hp : pc + 1 = pc') (hz : x.toInt16.toInt32 = z) (k : own_E p e below G (T.setTop (mkF m pc' Ls (.int z :: S)))) : own_E p e below G (T.setTop (mkF m pc Ls (.int x :: S))) := by
  subst hp; subst hz; exact own_go (fun _ => XS.i2s X.1.here X.2.1 rfl (hb X.2.2.2.1 hd) rfl) k
theorem own_i2c (X : own_A l Z own cb ml n0 p e R s m args below meth c T h locs cells slots) {x : Int32} {z : Int32} (hd : decode cb pc = .ok (.i2c, 1)) (hp : pc + 1 = pc') (hz : x.toUInt32.toUInt16.toUInt32.toInt32 = z) (k : own_E p e below G (T.setTop (mkF m pc' Ls (.int z :: S)))) : own_E p e below G (T.setTop (mkF m pc Ls (.int x :: S))) := by
  subst hp; subst hz; exact own_go (fun _ => XS.i2c X.1.here X.2.1 rfl (hb X.2.2.2.1 hd) rfl) k
theorem own_iinc (X : own_A l Z own cb ml n0 p e R s m args below meth c T h locs cells slots) {i : Nat} {cst : Int} {x z : Int32} (hd : decode cb pc = .ok (.iinc i cst, 3)) (hp : pc + 3 = pc') (hl : Ls[i]? = some (.val (.int x))) (hz : x + Int32.ofInt cst = z) (hl' : storeLocals Ls i (.int z) = some Ls') (k : own_E p e below G (T.setTop (mkF m pc' Ls' S))) : own_E p e below G (T.setTop (mkF m pc Ls S)) := by
  subst hp; subst hz; exact own_go (fun _ => XS.iinc X.1.here X.2.1 rfl (hb X.2.2.2.1 hd) hl hl') k
theorem own_dup (X : own_A l Z own cb ml n0 p e R s m args below meth c T h locs cells slots) {v : Value} (hd : decode cb pc = .ok (.dup, 1)) (hp : pc + 1 = pc') (hc : v.category = 1) (k : own_E p e below G (T.setTop (mkF m pc' Ls (v :: v :: S)))) : own_E p e below G (T.setTop (mkF m pc Ls (v :: S))) := by
  subst hp; exact own_go (fun _ => XS.dup X.1.here X.2.1 rfl (hb X.2.2.2.1 hd) rfl hc) k
theorem own_pop (X : own_A l Z own cb ml n0 p e R s m args below meth c T h locs cells slots) {v : Value} (hd : decode cb pc = .ok (.pop, 1)) (hp : pc + 1 = pc') (hc : v.category = 1) (k : own_E p e below G (T.setTop (mkF m pc' Ls S))) : own_E p e below G (T.setTop (mkF m pc Ls (v :: S))) := by
  subst hp; exact own_go (fun _ => XS.pop X.1.here X.2.1 rfl (hb X.2.2.2.1 hd) rfl hc) k
theorem own_goto (X : own_A l Z own cb ml n0 p e R s m args below meth c T h locs cells slots) {o : Int} (hd : decode cb pc = .ok (.goto o, 3)) (ho : 0 ≤ (pc : Int) + o) (hp : ((pc : Int) + o).toNat = pc') (k : own_E p e below G (T.setTop (mkF m pc' Ls S))) : own_E p e below G (T.setTop (mkF m pc Ls S)) :=
  own_go (fun _ => XS.goto X.1.here X.2.1 rfl rfl (hb X.2.2.2.1 hd) ho hp) k
theorem own_icmpY (X : own_A l Z own cb ml n0 p e R s m args below meth c T h locs cells slots) {cd : ClassFile.Cond} {o : Int} {x y : Int32} (hd : decode cb pc = .ok (.if_icmp cd o, 3)) (hc : if_icmp.holds cd x y = true) (ho : 0 ≤ (pc : Int) + o) (hp : ((pc : Int) + o).toNat = pc') (k : own_E p e below G (T.setTop (mkF m pc' Ls S))) : own_E p e below G (T.setTop (mkF m pc Ls (.int y :: .int x :: S))) :=
  own_go (fun _ => XS.icmpYes X.1.here X.2.1 rfl rfl (hb X.2.2.2.1 hd) rfl hc ho hp) k
theorem own_icmpN (X : own_A l Z own cb ml n0 p e R s m args below meth c T h locs cells slots) {cd : ClassFile.Cond} {o : Int} {x y : Int32} (hd : decode cb pc = .ok (.if_icmp cd o, 3)) (hc : if_icmp.holds cd x y = false) (hp : pc + 3 = pc') (k : own_E p e below G (T.setTop (mkF m pc' Ls S))) : own_E p e below G (T.setTop (mkF m pc Ls (.int y :: .int x :: S))) := by
  subst hp; exact own_go (fun _ => XS.icmpNo X.1.here X.2.1 rfl (hb X.2.2.2.1 hd) rfl hc) k
theorem own_ifY (X : own_A l Z own cb ml n0 p e R s m args below meth c T h locs cells slots) {cd : ClassFile.Cond} {o : Int} {x : Int32} (hd : decode cb pc = .ok (.ifCond cd o, 3)) (hc : if_icmp.holds cd x 0 = true) (ho : 0 ≤ (pc : Int) + o) (hp : ((pc : Int) + o).toNat = pc') (k : own_E p e below G (T.setTop (mkF m pc' Ls S))) : own_E p e below G (T.setTop (mkF m pc Ls (.int x :: S))) :=
  own_go (fun _ => XS.ifYes X.1.here X.2.1 rfl rfl (hb X.2.2.2.1 hd) rfl ((if0 _ _).trans hc) ho hp) k
theorem own_ifN (X : own_A l Z own cb ml n0 p e R s m args below meth c T h locs cells slots) {cd : ClassFile.Cond} {o : Int} {x : Int32} (hd : decode cb pc = .ok (.ifCond cd o, 3)) (hc : if_icmp.holds cd x 0 = false) (hp : pc + 3 = pc') (k : own_E p e below G (T.setTop (mkF m pc' Ls S))) : own_E p e below G (T.setTop (mkF m pc Ls (.int x :: S))) := by
  subst hp; exact own_go (fun _ => XS.ifNo X.1.here X.2.1 rfl (hb X.2.2.2.1 hd) rfl ((if0 _ _).trans hc)) k
theorem own_ljY (X : own_A l Z own cb ml n0 p e R s m args below meth c T h locs cells slots) {cd : ClassFile.Cond} {o : Int} {x y : Int64} {pc1 : Nat} (hd1 : decode cb pc = .ok (.lcmp, 1)) (h1 : pc + 1 = pc1) (hd : decode cb pc1 = .ok (.ifCond cd o, 3)) (hc : if_icmp.holds cd (lcmpW x y) 0 = true) (ho : 0 ≤ (pc1 : Int) + o) (hp : ((pc1 : Int) + o).toNat = pc') (k : own_E p e below G (T.setTop (mkF m pc' Ls S))) : own_E p e below G (T.setTop (mkF m pc Ls (.long y :: .long x :: S))) := by
  subst h1
  exact own_go (fun _ k => XS.lcmp X.1.here X.2.1 rfl (hb X.2.2.2.1 hd1) rfl (XS.ifYes X.1.here X.2.1 rfl rfl (hb X.2.2.2.1 hd) rfl ((if0 _ _).trans hc) ho hp k)) k
theorem own_ljN (X : own_A l Z own cb ml n0 p e R s m args below meth c T h locs cells slots) {cd : ClassFile.Cond} {o : Int} {x y : Int64} {pc1 : Nat} (hd1 : decode cb pc = .ok (.lcmp, 1)) (h1 : pc + 1 = pc1) (hd : decode cb pc1 = .ok (.ifCond cd o, 3)) (hc : if_icmp.holds cd (lcmpW x y) 0 = false) (hp : pc1 + 3 = pc') (k : own_E p e below G (T.setTop (mkF m pc' Ls S))) : own_E p e below G (T.setTop (mkF m pc Ls (.long y :: .long x :: S))) := by
  subst h1; subst hp
  exact own_go (fun _ k => XS.lcmp X.1.here X.2.1 rfl (hb X.2.2.2.1 hd1) rfl (XS.ifNo X.1.here X.2.1 rfl (hb X.2.2.2.1 hd) rfl ((if0 _ _).trans hc) k)) k
theorem own_tltL {x y : Int64} (q : x < y) : if_icmp.holds .lt (lcmpW x y) 0 = true ∧ if_icmp.holds .ge (lcmpW x y) 0 = false ∧ if_icmp.holds .gt (lcmpW y x) 0 = true ∧ if_icmp.holds .le (lcmpW y x) 0 = false :=
  ⟨(tlt ((lw_lt x y).mpr q)).1, (tlt ((lw_lt x y).mpr q)).2.1, (tlt ((lw_gt y x).mpr q)).2.2.1, (tlt ((lw_gt y x).mpr q)).2.2.2⟩
theorem own_fltL {x y : Int64} (q : ¬ x < y) : if_icmp.holds .lt (lcmpW x y) 0 = false ∧ if_icmp.holds .ge (lcmpW x y) 0 = true ∧ if_icmp.holds .gt (lcmpW y x) 0 = false ∧ if_icmp.holds .le (lcmpW y x) 0 = true :=
  ⟨(flt (fun z => q ((lw_lt x y).mp z))).1, (flt (fun z => q ((lw_lt x y).mp z))).2.1, (flt (fun z => q ((lw_gt y x).mp z))).2.2.1, (flt (fun z => q ((lw_gt y x).mp z))).2.2.2⟩
theorem own_teqL {x y : Int64} (q : x = y) : if_icmp.holds .eq (lcmpW x y) 0 = true ∧ if_icmp.holds .ne (lcmpW x y) 0 = false := teq ((lw_eq x y).mpr q)
theorem own_feqL {x y : Int64} (q : ¬ x = y) : if_icmp.holds .eq (lcmpW x y) 0 = false ∧ if_icmp.holds .ne (lcmpW x y) 0 = true := feq (fun z => q ((lw_eq x y).mp z))
theorem own_ifnullY (X : own_A l Z own cb ml n0 p e R s m args below meth c T h locs cells slots) {o : Int} (hd : decode cb pc = .ok (.ifnull o, 3)) (ho : 0 ≤ (pc : Int) + o) (hp : ((pc : Int) + o).toNat = pc') (k : own_E p e below G (T.setTop (mkF m pc' Ls S))) : own_E p e below G (T.setTop (mkF m pc Ls (.null :: S))) :=
  own_go (fun _ => XS.ifnullYes X.1.here X.2.1 rfl rfl (hb X.2.2.2.1 hd) rfl ho hp) k
theorem own_ifnullN (X : own_A l Z own cb ml n0 p e R s m args below meth c T h locs cells slots) {o : Int} {b : Addr} (hd : decode cb pc = .ok (.ifnull o, 3)) (hp : pc + 3 = pc') (k : own_E p e below G (T.setTop (mkF m pc' Ls S))) : own_E p e below G (T.setTop (mkF m pc Ls (.ref b :: S))) := by
  subst hp; exact own_go (fun _ => XS.ifnullNo X.1.here X.2.1 rfl (hb X.2.2.2.1 hd) rfl) k
theorem own_ldc (X : own_A l Z own cb ml n0 p e R s m args below meth c T h locs cells slots) {i : Nat} {v : Int32} (w : (Jvm.Cond.constant own i v).before a0 Z = true) (hd : decode cb pc = .ok (.ldc i, 2)) (hp : pc + 2 = pc') (k : own_E p e below G (T.setTop (mkF m pc' Ls (.int v :: S)))) : own_E p e below G (T.setTop (mkF m pc Ls S)) := by
  subst hp; exact own_go (X.1.ldcInt X.2.1 X.2.2.2.2.2.1 (mvT X.2.2.1 w) rfl (hb X.2.2.2.1 hd)) k
theorem own_ldc2 (X : own_A l Z own cb ml n0 p e R s m args below meth c T h locs cells slots) {i : Nat} {v : Int64} (w : (Jvm.Cond.constantLong own i v).before a0 Z = true) (hd : decode cb pc = .ok (.ldc2_w i, 3)) (hp : pc + 3 = pc') (k : own_E p e below G (T.setTop (mkF m pc' Ls (.long v :: S)))) : own_E p e below G (T.setTop (mkF m pc Ls S)) := by
  subst hp; exact own_go (X.1.ldc2Long X.2.1 X.2.2.2.2.2.1 (mvT X.2.2.1 w) rfl (hb X.2.2.2.1 hd)) k
theorem own_callS (X : own_A l Z own cb ml n0 p e R s m args below meth c T h locs cells slots) {y : MethodName} {cb' : ByteArray} {ml' : Nat} {ret' : Option FieldType} {rm : Room} {argsL st : List Value} {Q : Option Value → Heap → Prop} {i : Nat} (hC : own_Con l Z y cb' ml' ret' rm argsL.toArray h n0 Q)
    (w1 : (Jvm.Cond.methodLink own i y).before a0 Z = true) (w2 : (Jvm.Cond.static y).before a0 Z = true) (w3 : (Jvm.Cond.initialized y.cls).before a0 Z = true) (w4 : (Jvm.Cond.code y cb' ml' ret').before a0 Z = true) (hy : y.cls ≠ "java/lang/invoke/MethodHandle" ∧ y.cls ≠ "java/lang/invoke/VarHandle")
    (hf : rm.frames + 1 ≤ R.frames) (W : Nat) (hl : W + (ml' + 11) + rm.locals ≤ R.locals) (hls : Ls.size = ml) {ps : List FieldType} {r : Option FieldType} (hpd : parseMethodDescriptor y.desc = some ⟨ps, r⟩) (hlen : argsL.length = ps.length) (hst : st = argsL.reverse ++ S) (hW : (S.map fun v => v.category).sum ≤ W) (hcl : cells + rm.cells ≤ R.cells) (hsl : slots + rm.slots ≤ R.slots)
    (hd : decode cb pc = .ok (.invokestatic i, 3)) (hp : pc + 3 = pc') (k : ∀ T' h' locs' v, own_A l Z own cb ml n0 p e R s m args below meth c T' h' locs' (cells + rm.cells) (slots + rm.slots) → Q v h' → own_E p e below G (T'.setTop (mkF m pc' Ls (v.toList ++ S)))) : own_E p e below G (T.setTop (mkF m pc Ls st)) := by
  obtain ⟨X, hx, hZ, hby, hml, hown, eT, N, hsz, hlk⟩ := X
  subst hp
  obtain ⟨v, _, ⟨T', L', k', n'⟩, -, X', ⟨Lc, hQ, q1, q2, q3⟩, stp⟩ := Jvm.LawKit.callS X hx (y := y) hown (mvT hZ w1) (mvT hZ w2) (mvT hZ w3) (mvT hZ w4) hy (backOf (Q := fun v h L => Q v h ∧ Fr n0 L ∧ n0 ≤ h.size) (W := W) (hC []) hZ w4 w3 hf hl) (g := mkF m pc Ls st) rfl (by rw [hml]; exact hls) (argsL := argsL) (rest := S) (lenOf hpd hlen) hst (by show 2 * 0 + _ ≤ _; omega) (hb hby hd) (fun _ _ => ⟨rfl, eT, hcl, hsl⟩)
  dsimp only [Pt.U, Pt.locs, Pt.cells, Pt.slots] at X' q1 q2 q3 stp hQ
  subst q1 q2 q3
  exact own_go stp (k _ _ _ _ ⟨X', hx, hZ, hby, hml, hown, rfl, N.app hQ.2.1, hQ.2.2, hlk⟩ hQ.1)
theorem own_callI (X : own_A l Z own cb ml n0 p e R s m args below meth c T h locs cells slots) {y : MethodName} {cb' : ByteArray} {ml' : Nat} {rm : Room} {a : Addr} {argsL st : List Value} {Q : Option Value → Heap → Prop} {i : Nat} (hC : own_Con l Z y cb' ml' none rm (.ref a :: argsL).toArray h n0 Q) (hy1 : y.name = "<init>")
    (w1 : (Jvm.Cond.methodLink own i y).before a0 Z = true) (w2 : (Jvm.Cond.instanceMethod y).before a0 Z = true) (w3 : (Jvm.Cond.initialized y.cls).before a0 Z = true) (w4 : (Jvm.Cond.code y cb' ml' none).before a0 Z = true) (hy : y.cls ≠ "java/lang/invoke/MethodHandle" ∧ y.cls ≠ "java/lang/invoke/VarHandle")
    (hf : rm.frames + 1 ≤ R.frames) (W : Nat) (hl : W + (ml' + 11) + rm.locals ≤ R.locals) (hls : Ls.size = ml) {ps : List FieldType} {r : Option FieldType} (hpd : parseMethodDescriptor y.desc = some ⟨ps, r⟩) (hlen : argsL.length = ps.length) (hst : st = argsL.reverse ++ .ref a :: S) (hW : (S.map fun v => v.category).sum ≤ W) (hcl : cells + rm.cells ≤ R.cells) (hsl : slots + rm.slots ≤ R.slots)
    (hd : decode cb pc = .ok (.invokespecial i, 3)) (hp : pc + 3 = pc') (k : ∀ T' h' locs' v, own_A l Z own cb ml n0 p e R s m args below meth c T' h' locs' (cells + rm.cells) (slots + rm.slots) → Q v h' → own_E p e below G (T'.setTop (mkF m pc' Ls (v.toList ++ S)))) : own_E p e below G (T.setTop (mkF m pc Ls st)) := by
  obtain ⟨X, hx, hZ, hby, hml, hown, eT, N, hsz, hlk⟩ := X
  subst hp
  obtain ⟨v, _, ⟨T', L', k', n'⟩, -, X', ⟨Lc, hQ, q1, q2, q3⟩, stp⟩ := X.specialBack hx (y := y) hy1 hown (mvT hZ w1) (mvT hZ w2) (mvT hZ w4) hy (backOf (Q := fun v h L => Q v h ∧ Fr n0 L ∧ n0 ≤ h.size) (W := W) (hC []) hZ w4 w3 hf hl) (g := mkF m pc Ls st) rfl (by rw [hml]; exact hls) (Steps.refl _) (a := a) (argsL := argsL) (rest := S) (lenOf hpd hlen) hst (by show 2 * 0 + _ ≤ _; omega) (hb hby hd) (fun _ _ => ⟨rfl, eT, hcl, hsl⟩)
  dsimp only [Pt.U, Pt.locs, Pt.cells, Pt.slots] at X' q1 q2 q3 stp hQ
  subst q1 q2 q3
  exact own_go (fun _ z => stp.trans z) (k _ _ _ _ ⟨X', hx, hZ, hby, hml, hown, rfl, N.app hQ.2.1, hQ.2.2, hlk⟩ hQ.1)
theorem own_callV (X : own_A l Z own cb ml n0 p e R s m args below meth c T h locs cells slots) {y : MethodName} {C : String} {cb' : ByteArray} {ml' : Nat} {ret' : Option FieldType} {rm : Room} {a : Addr} {argsL st : List Value} {Q : Option Value → Heap → Prop} {i : Nat} (hC : own_Con l Z y cb' ml' ret' rm (.ref a :: argsL).toArray h n0 Q) (E : Exa Z h a C)
    (w1 : (Jvm.Cond.methodLink own i y).before a0 Z = true) (w2 : (Jvm.Cond.declares y).before a0 Z = true) (w5 : (Jvm.Cond.selects C y y).before a0 Z = true) (w6 : (Jvm.Cond.instanceMethod y).before a0 Z = true) (w3 : (Jvm.Cond.initialized y.cls).before a0 Z = true) (w4 : (Jvm.Cond.code y cb' ml' ret').before a0 Z = true) (hy : y.cls ≠ "java/lang/invoke/MethodHandle" ∧ y.cls ≠ "java/lang/invoke/VarHandle")
    (hf : rm.frames + 1 ≤ R.frames) (W : Nat) (hl : W + (ml' + 11) + rm.locals ≤ R.locals) (hls : Ls.size = ml) {ps : List FieldType} {r : Option FieldType} (hpd : parseMethodDescriptor y.desc = some ⟨ps, r⟩) (hlen : argsL.length = ps.length) (hst : st = argsL.reverse ++ .ref a :: S) (hW : (S.map fun v => v.category).sum ≤ W) (hcl : cells + rm.cells ≤ R.cells) (hsl : slots + rm.slots ≤ R.slots)
    (hd : decode cb pc = .ok (.invokevirtual i, 3)) (hp : pc + 3 = pc') (hC0 : y.cls = C) (k : ∀ T' h' locs' v, own_A l Z own cb ml n0 p e R s m args below meth c T' h' locs' (cells + rm.cells) (slots + rm.slots) → Q v h' → own_E p e below G (T'.setTop (mkF m pc' Ls (v.toList ++ S)))) : own_E p e below G (T.setTop (mkF m pc Ls st)) := by
  obtain ⟨X, hx, hZ, hby, hml, hown, eT, N, hsz, hlk⟩ := X
  subst hp; subst hC0
  obtain ⟨cq, kq, qa, qb, qc⟩ := isOf hZ eT E
  obtain ⟨v, _, ⟨T', L', k', n'⟩, -, X', ⟨Lc, hQ, q1, q2, q3⟩, stp⟩ := X.virtualBack hx (y := y) (z := y) hown (mvT hZ w1) (mvT hZ w2) (notFace_of_selects (args := #[]) (mvT hZ w5)) (mvT hZ w5) (mvT hZ w6) hy (backOf (Q := fun v h L => Q v h ∧ Fr n0 L ∧ n0 ≤ h.size) (W := W) (hC []) hZ w4 w3 hf hl) qa qc (g := mkF m pc Ls st) rfl (by rw [hml]; exact hls) (Steps.refl _) (argsL := argsL) (rest := S) (lenOf hpd hlen) hst (by show 2 * 0 + _ ≤ _; omega) (hb hby hd) (fun _ _ => ⟨rfl, eT, hcl, hsl⟩)
  dsimp only [Pt.U, Pt.locs, Pt.cells, Pt.slots] at X' q1 q2 q3 stp hQ
  subst q1 q2 q3
  exact own_go (fun _ z => stp.trans z) (k _ _ _ _ ⟨X', hx, hZ, hby, hml, hown, rfl, N.app hQ.2.1, hQ.2.2, hlk⟩ hQ.1)
theorem own_initO (X : own_A l Z own cb ml n0 p e R s m args below meth c T h locs cells slots) {i : Nat} {a : Addr} (w1 : (Jvm.Cond.methodLink own i Lib.objectInit).before a0 Z = true) (w2 : (Jvm.Cond.instanceMethod Lib.objectInit).before a0 Z = true) (w3 : (Jvm.Cond.code Lib.objectInit ⟨#[0xb1]⟩ 1 none).before a0 Z = true) (hls : Ls.size = ml) (hf : 1 ≤ R.frames) (W : Nat) (hW : (S.map fun v => v.category).sum ≤ W) (hl : W + 12 ≤ R.locals)
    (hd : decode cb pc = .ok (.invokespecial i, 3)) (hp : pc + 3 = pc') (k : ∀ T', own_A l Z own cb ml n0 p e R s m args below meth c T' h locs cells slots → own_E p e below G (T'.setTop (mkF m pc' Ls S))) : own_E p e below G (T.setTop (mkF m pc Ls (.ref a :: S))) := by
  obtain ⟨X, hx, hZ, hby, hml, hown, eT, N, hsz, hlk⟩ := X
  subst hp
  obtain ⟨T', X', eT', stp⟩ := initO X hx hZ hown w1 w2 w3 eT (g := mkF m pc Ls (.ref a :: S)) rfl (by rw [hml]; exact hls) rfl (hb hby hd) hf (W := W) (by show 2 * 0 + _ ≤ _; omega) hl
  exact own_go stp (k _ ⟨X', hx, hZ, hby, hml, hown, eT', N, hsz, hlk⟩)
theorem own_getF (X : own_A l Z own cb ml n0 p e R s m args below meth c T h locs cells slots) {i : Nat} {a : Addr} {C f d : String} {v : Value} (w1 : (Jvm.Cond.fieldLink own i C f d).before a0 Z = true) (F : Fld Z h a C f d v)
    (hd : decode cb pc = .ok (.getfield i, 3)) (hp : pc + 3 = pc') (k : ∀ T', own_A l Z own cb ml n0 p e R s m args below meth c T' h locs cells slots → own_E p e below G (T'.setTop (mkF m pc' Ls (v :: S)))) : own_E p e below G (T.setTop (mkF m pc Ls (.ref a :: S))) := by
  obtain ⟨X, hx, hZ, hby, hml, hown, eT, N, hsz, hlk⟩ := X
  subst hp
  obtain ⟨T', X', eT', stp⟩ := getF X hx hZ hown (host := "") (Or.inl w1) Via.refl eT F (g := mkF m pc Ls (.ref a :: S)) rfl rfl (hb hby hd)
  exact own_go stp (k _ ⟨X', hx, hZ, hby, hml, hown, eT', N, hsz, hlk⟩)
theorem own_getS (X : own_A l Z own cb ml n0 p e R s m args below meth c T h locs cells slots) {i : Nat} {C f d : String} {v : Value} (w1 : (Jvm.Cond.fieldLink own i C f d).before a0 Z = true) (F : Sta Z h C f d v)
    (hd : decode cb pc = .ok (.getstatic i, 3)) (hp : pc + 3 = pc') (k : ∀ T', own_A l Z own cb ml n0 p e R s m args below meth c T' h locs cells slots → own_E p e below G (T'.setTop (mkF m pc' Ls (v :: S)))) : own_E p e below G (T.setTop (mkF m pc Ls S)) := by
  obtain ⟨X, hx, hZ, hby, hml, hown, eT, N, hsz, hlk⟩ := X
  subst hp
  obtain ⟨T', X', eT', stp⟩ := getS2 X hx hZ hown (host := "") (Or.inl w1) Via.refl eT F (g := mkF m pc Ls S) rfl (hb hby hd)
  exact own_go stp (k _ ⟨X', hx, hZ, hby, hml, hown, eT', N, hsz, hlk⟩)
theorem own_staK {C f d : String} {v : Value} (F : Sta Z h C f d v) (K : Keep h h' []) : Sta Z h' C f d v := by
  obtain ⟨cf, i, k, f', st, cell, h1, h2, h3, h4, h5, r⟩ := F
  exact ⟨cf, i, k, f', st, cell, h1, h2, h3, h4, K.2.1 _ _ h5 (fun q => nomatch q), r⟩
theorem own_putF (X : own_A l Z own cb ml n0 p e R s m args below meth c T h locs cells slots) {i kk : Nat} {a : Addr} {C f d : String} {v old : Value} {ty : FieldType} (w1 : (Jvm.Cond.fieldLink own i C f d).before a0 Z = true) (F : Fld Z h a C f d old) (E : Exa Z h a C) (L : (Jvm.Cond.lays C C f d).before a0 Z = true ∨ ((Jvm.Cond.laysFinal C C f d).before a0 Z = true ∧ own = C ∧ meth.name = "<init>")) (wi : (Jvm.Cond.instantiable C kk).before a0 Z = true)
    (hty : parseFieldDescriptor d = some ty) (hn : narrow ty v = v) (hft : fits ty v = true) (hg : n0 ≤ a) (hd : decode cb pc = .ok (.putfield i, 3)) (hp : pc + 3 = pc')
    (k : ∀ T' h' locs', own_A l Z own cb ml n0 p e R s m args below meth c T' h' locs' cells slots → Wr h h' a (Jvm.RoadKit.slotOf Z C f d) v → Fld Z h' a C f d v → own_E p e below G (T'.setTop (mkF m pc' Ls S))) : own_E p e below G (T.setTop (mkF m pc Ls (v :: .ref a :: S))) := by
  obtain ⟨X, hx, hZ, hby, hml, hown, eT, N, hsz, hlk⟩ := X
  subst hp
  obtain ⟨T', h', X', eT', W, stp⟩ := putF X hx hZ hown (host := "") (Or.inl w1) Via.refl eT F E L wi hty hn hft (g := mkF m pc Ls (v :: .ref a :: S)) rfl rfl (hb hby hd)
  exact own_go stp (k _ _ _ ⟨X', hx, hZ, hby, hml, hown, eT', Fr.snoc X' N hg, by rw [W.size]; exact hsz, hlk⟩ W (F.same W))
theorem own_putFN (X : own_A l Z own cb ml n0 p e R s m args below meth c T h locs cells slots) {i kk : Nat} {a : Addr} {C f d : String} {v v' old : Value} {ty : FieldType} (w1 : (Jvm.Cond.fieldLink own i C f d).before a0 Z = true) (F : Fld Z h a C f d old) (E : Exa Z h a C) (L : (Jvm.Cond.lays C C f d).before a0 Z = true ∨ ((Jvm.Cond.laysFinal C C f d).before a0 Z = true ∧ own = C ∧ meth.name = "<init>")) (wi : (Jvm.Cond.instantiable C kk).before a0 Z = true)
    (hty : parseFieldDescriptor d = some ty) (hn : narrow ty v = v') (hft : fits ty v' = true) (hg : n0 ≤ a) (hd : decode cb pc = .ok (.putfield i, 3)) (hp : pc + 3 = pc')
    (k : ∀ T' h' locs', own_A l Z own cb ml n0 p e R s m args below meth c T' h' locs' cells slots → Wr h h' a (Jvm.RoadKit.slotOf Z C f d) v' → Fld Z h' a C f d v' → own_E p e below G (T'.setTop (mkF m pc' Ls S))) : own_E p e below G (T.setTop (mkF m pc Ls (v :: .ref a :: S))) := by
  obtain ⟨X, hx, hZ, hby, hml, hown, eT, N, hsz, hlk⟩ := X
  subst hp
  obtain ⟨T', h', X', eT', W, stp⟩ := putFN X hx hZ hown w1 Via.refl eT F E L wi hty hn hft (g := mkF m pc Ls (v :: .ref a :: S)) rfl rfl (hb hby hd)
  exact own_go stp (k _ _ _ ⟨X', hx, hZ, hby, hml, hown, eT', Fr.snoc X' N hg, by rw [W.size]; exact hsz, hlk⟩ W (F.same W))
theorem own_new (X : own_A l Z own cb ml n0 p e R s m args below meth c T h locs cells slots) {i n : Nat} {C : String} (w1 : (Jvm.Cond.classLink own i C).before a0 Z = true) (w2 : (Jvm.Cond.instantiable C n).before a0 Z = true) (w3 : (Jvm.Cond.initialized C).before a0 Z = true) (hc : cells + 1 ≤ R.cells) (hs : slots + n ≤ R.slots)
    (hd : decode cb pc = .ok (.new i, 3)) (hp : pc + 3 = pc') (k : ∀ T' h' a, own_A l Z own cb ml n0 p e R s m args below meth c T' h' locs (cells + 1) (slots + n) → Ext h h' → h.size = a → n0 ≤ a → Exa Z h' a C → (∀ {O nm d : String} {ty : FieldType}, Laid Z a0 C O nm d → parseFieldDescriptor d = some ty → Fld Z h' a O nm d (defaultValue ty)) → own_E p e below G (T'.setTop (mkF m pc' Ls (.ref a :: S)))) : own_E p e below G (T.setTop (mkF m pc Ls S)) := by
  obtain ⟨X, hx, hZ, hby, hml, hown, eT, N, hsz, hlk⟩ := X
  subst hp
  obtain ⟨T', h', X', eT', E', A', D', -, stp⟩ := newO X hx hZ hown w1 w2 w3 eT (g := mkF m pc Ls S) rfl (hb hby hd) hc hs
  exact own_go stp (k _ _ _ ⟨X', hx, hZ, hby, hml, hown, eT', N, Nat.le_trans hsz E'.1, hlk⟩ E' rfl hsz A' D')
/-! arrays -/
def own_V (Z : State) (h : Heap) (a : Addr) (ty : FieldType) (z : Int32) (xs : List Int32) : Prop := ∃ k, Arv Z h a k ty z (xs.map Value.int) (.int 0) ∧ xs.length = z.toNatClampNeg
def own_W (Z : State) (h : Heap) (a : Addr) (z : Int32) (xs : List Int64) : Prop := ∃ k, Arv Z h a k .long z (xs.map Value.long) (.long 0) ∧ xs.length = z.toNatClampNeg
theorem own_V.ext {a : Addr} {ty : FieldType} {z : Int32} {xs : List Int32} (V : own_V Z h a ty z xs) (E : Ext h h') : own_V Z h' a ty z xs := by obtain ⟨k, A, q⟩ := V; exact ⟨k, A.ext E, q⟩
theorem own_W.ext {a : Addr} {z : Int32} {xs : List Int64} (V : own_W Z h a z xs) (E : Ext h h') : own_W Z h' a z xs := by obtain ⟨k, A, q⟩ := V; exact ⟨k, A.ext E, q⟩
theorem own_V.other {a b : Addr} {ty : FieldType} {z : Int32} {xs : List Int32} {sl : Nat} {v : Value} (V : own_V Z h a ty z xs) (W : Wr h h' b sl v) (q : a ≠ b) : own_V Z h' a ty z xs := by obtain ⟨k, A, r⟩ := V; exact ⟨k, A.other W q, r⟩
theorem own_W.other {a b : Addr} {z : Int32} {xs : List Int64} {sl : Nat} {v : Value} (V : own_W Z h a z xs) (W : Wr h h' b sl v) (q : a ≠ b) : own_W Z h' a z xs := by obtain ⟨k, A, r⟩ := V; exact ⟨k, A.other W q, r⟩
theorem own_V.keep {a : Addr} {ty : FieldType} {z : Int32} {xs : List Int32} {ws : List Addr} (V : own_V Z h a ty z xs) (K : Keep h h' ws) (q : a ∉ ws) : own_V Z h' a ty z xs := by obtain ⟨k, A, r⟩ := V; exact ⟨k, A.keep K q, r⟩
theorem own_W.keep {a : Addr} {z : Int32} {xs : List Int64} {ws : List Addr} (V : own_W Z h a z xs) (K : Keep h h' ws) (q : a ∉ ws) : own_W Z h' a z xs := by obtain ⟨k, A, r⟩ := V; exact ⟨k, A.keep K q, r⟩
theorem own_V.lt {a : Addr} {ty : FieldType} {z : Int32} {xs : List Int32} (V : own_V Z h a ty z xs) : a < h.size := by obtain ⟨k, A, r⟩ := V; exact A.lt
theorem own_W.lt {a : Addr} {z : Int32} {xs : List Int64} (V : own_W Z h a z xs) : a < h.size := by obtain ⟨k, A, r⟩ := V; exact A.lt
theorem own_V.len {a : Addr} {ty : FieldType} {z : Int32} {xs : List Int32} (V : own_V Z h a ty z xs) : xs.length = z.toNatClampNeg := by obtain ⟨k, A, r⟩ := V; exact r
theorem own_W.len {a : Addr} {z : Int32} {xs : List Int64} (V : own_W Z h a z xs) : xs.length = z.toNatClampNeg := by obtain ⟨k, A, r⟩ := V; exact r
theorem own_V.cast {a : Addr} {ty : FieldType} {z : Int32} {xs ys : List Int32} (V : own_V Z h a ty z xs) (q : xs = ys) : own_V Z h a ty z ys := q ▸ V
theorem own_W.cast {a : Addr} {z : Int32} {xs ys : List Int64} (V : own_W Z h a z xs) (q : xs = ys) : own_W Z h a z ys := q ▸ V
theorem own_cast (X : own_A l Z own cb ml n0 p e R s m args below meth c T h locs cells slots) {i : Nat} {a : Addr} {C : String} (w1 : (Jvm.Cond.classLink own i C).before a0 Z = true) (I : Ins Z h a C true)
    (hd : decode cb pc = .ok (.checkcast i, 3)) (hp : pc + 3 = pc') (k : ∀ T', own_A l Z own cb ml n0 p e R s m args below meth c T' h locs cells slots → own_E p e below G (T'.setTop (mkF m pc' Ls (.ref a :: S)))) : own_E p e below G (T.setTop (mkF m pc Ls (.ref a :: S))) := by
  obtain ⟨X, hx, hZ, hby, hml, hown, eT, N, hsz, hlk⟩ := X
  subst hp
  obtain ⟨T', X', eT', stp⟩ := castY X hx hZ hown w1 eT I (g := mkF m pc Ls (.ref a :: S)) rfl rfl (hb hby hd)
  exact own_go stp (k _ ⟨X', hx, hZ, hby, hml, hown, eT', N, hsz, hlk⟩)
theorem own_V.nn {a : Addr} {ty : FieldType} {z : Int32} {xs : List Int32} (V : own_V Z h a ty z xs) : ¬ z < 0 := by obtain ⟨k, ⟨cl, A, q1, q2, q3, r⟩, r'⟩ := V; exact q3
theorem own_idx {j z : Int32} {n : Nat} (q : n = z.toNatClampNeg) (h0 : ¬ j < 0) (h1 : j < z) : j.toNatClampNeg < n := by
  subst q
  rw [Int32.lt_iff_toInt_lt] at h0 h1
  have e0 : (0 : Int32).toInt = 0 := rfl
  simp only [Int32.toNatClampNeg]; omega
theorem own_mapI (xs : List Int32) (i : Nat) : (xs.map Value.int).getD i (.int 0) = .int (xs.getD i 0) := by
  simp only [List.getD_eq_getElem?_getD, List.getElem?_map]; cases xs[i]? <;> rfl
theorem own_mapL (xs : List Int64) (i : Nat) : (xs.map Value.long).getD i (.long 0) = .long (xs.getD i 0) := by
  simp only [List.getD_eq_getElem?_getD, List.getElem?_map]; cases xs[i]? <;> rfl
theorem own_newV (X : own_A l Z own cb ml n0 p e R s m args below meth c T h locs cells slots) {aty : ArrayType} {ty : FieldType} {n : Int32} (hty : newarray.typeOf aty = ty) (hdv : defaultValue ty = .int 0) (w : (Jvm.Cond.arrayClass ty).before a0 Z = true) (hn : ¬ n < 0) (cap : Nat) (hcap : n.toNatClampNeg ≤ cap) (hb8 : cap * 8 ≤ 536870912) (hc : cells + 1 ≤ R.cells) (hs : slots + cap ≤ R.slots)
    (hd : decode cb pc = .ok (.newarray aty, 2)) (hp : pc + 2 = pc') (k : ∀ T' h' a, own_A l Z own cb ml n0 p e R s m args below meth c T' h' locs (cells + 1) (slots + cap) → Ext h h' → h.size = a → n0 ≤ a → own_V Z h' a ty n (List.replicate n.toNatClampNeg 0) → own_E p e below G (T'.setTop (mkF m pc' Ls (.ref a :: S)))) : own_E p e below G (T.setTop (mkF m pc Ls (.int n :: S))) := by
  obtain ⟨X, hx, hZ, hby, hml, hown, eT, N, hsz, hlk⟩ := X
  subst hp; subst hty
  obtain ⟨T', h', cA, X', eT', E', A', stp⟩ := newP X hx hZ w eT (g := mkF m pc Ls (.int n :: S)) rfl (hb hby hd) rfl hn (cap := cap) hcap hb8 hc hs
  refine own_go stp (k _ _ _ ⟨X', hx, hZ, hby, hml, hown, eT', N, Nat.le_trans hsz E'.1, hlk⟩ E' rfl hsz ⟨cA, ?_, by simp⟩)
  have V := Arv.new A' hn
  rw [hdv] at V
  refine V.pad fun i => ?_
  rw [List.map_replicate]
  exact pad_rep [] (.int 0) n.toNatClampNeg i
theorem own_newW (X : own_A l Z own cb ml n0 p e R s m args below meth c T h locs cells slots) {n : Int32} (w : (Jvm.Cond.arrayClass .long).before a0 Z = true) (hn : ¬ n < 0) (cap : Nat) (hcap : n.toNatClampNeg ≤ cap) (hb8 : cap * 8 ≤ 536870912) (hc : cells + 1 ≤ R.cells) (hs : slots + cap ≤ R.slots)
    (hd : decode cb pc = .ok (.newarray .long, 2)) (hp : pc + 2 = pc') (k : ∀ T' h' a, own_A l Z own cb ml n0 p e R s m args below meth c T' h' locs (cells + 1) (slots + cap) → Ext h h' → h.size = a → n0 ≤ a → own_W Z h' a n (List.replicate n.toNatClampNeg 0) → own_E p e below G (T'.setTop (mkF m pc' Ls (.ref a :: S)))) : own_E p e below G (T.setTop (mkF m pc Ls (.int n :: S))) := by
  obtain ⟨X, hx, hZ, hby, hml, hown, eT, N, hsz, hlk⟩ := X
  subst hp
  obtain ⟨T', h', cA, X', eT', E', A', stp⟩ := newP X hx hZ (aty := .long) w eT (g := mkF m pc Ls (.int n :: S)) rfl (hb hby hd) rfl hn (cap := cap) hcap hb8 hc hs
  refine own_go stp (k _ _ _ ⟨X', hx, hZ, hby, hml, hown, eT', N, Nat.le_trans hsz E'.1, hlk⟩ E' rfl hsz ⟨cA, ?_, by simp⟩)
  have V := Arv.new A' hn
  refine V.pad fun i => ?_
  rw [List.map_replicate]
  exact pad_rep [] (.long 0) n.toNatClampNeg i
theorem own_bastore (X : own_A l Z own cb ml n0 p e R s m args below meth c T h locs cells slots) {a : Addr} {z j x y : Int32} {xs : List Int32} (V : own_V Z h a .byte z xs) (hg : n0 ≤ a) (hy : nar .byte x = y) (i : Nat) (hj : j.toNatClampNeg = i) (h0 : ¬ j < 0) (h1 : j < z)
    (hd : decode cb pc = .ok (.bastore, 1)) (hp : pc + 1 = pc') (k : ∀ T' h' locs', own_A l Z own cb ml n0 p e R s m args below meth c T' h' locs' cells slots → Wr h h' a j.toNatClampNeg (.int y) → own_V Z h' a .byte z (xs.set i y) → own_E p e below G (T'.setTop (mkF m pc' Ls S))) : own_E p e below G (T.setTop (mkF m pc Ls (.int x :: .int j :: .ref a :: S))) := by
  obtain ⟨X, hx, hZ, hby, hml, hown, eT, N, hsz, hlk⟩ := X
  obtain ⟨kc, ⟨cl, A, q1, q2, q3, H, F⟩, hlen⟩ := V
  subst hp; subst hy
  obtain ⟨T', h', X', eT', W, stp⟩ := stB X hx hZ eT A (j := j) (x := x) (inb_of q2 ⟨h0, h1⟩) (g := mkF m pc Ls (.int x :: .int j :: .ref a :: S)) rfl rfl (hb hby hd)
  refine own_go stp (k _ _ _ ⟨X', hx, hZ, hby, hml, hown, eT', Fr.snoc X' N hg, by rw [W.size]; exact hsz, hlk⟩ W ⟨kc, ?_, by rw [List.length_set]; exact hlen⟩)
  rw [List.map_set]
  exact Arv.set A q1 q2 q3 H F (fits_nar_byte _) W i hj (by rw [List.length_map, ← hj]; exact own_idx hlen h0 h1)
theorem own_iastore (X : own_A l Z own cb ml n0 p e R s m args below meth c T h locs cells slots) {a : Addr} {z j w x : Int32} {xs : List Int32} (V : own_V Z h a .int z xs) (hg : n0 ≤ a) (hy : w = x) (i : Nat) (hj : j.toNatClampNeg = i) (h0 : ¬ j < 0) (h1 : j < z)
    (hd : decode cb pc = .ok (.iastore, 1)) (hp : pc + 1 = pc') (k : ∀ T' h' locs', own_A l Z own cb ml n0 p e R s m args below meth c T' h' locs' cells slots → Wr h h' a j.toNatClampNeg (.int x) → own_V Z h' a .int z (xs.set i x) → own_E p e below G (T'.setTop (mkF m pc' Ls S))) : own_E p e below G (T.setTop (mkF m pc Ls (.int w :: .int j :: .ref a :: S))) := by
  obtain ⟨X, hx, hZ, hby, hml, hown, eT, N, hsz, hlk⟩ := X
  obtain ⟨kc, ⟨cl, A, q1, q2, q3, H, F⟩, hlen⟩ := V
  subst hp; subst hy
  obtain ⟨T', h', X', eT', W, stp⟩ := stI X hx hZ eT A (j := j) (x := w) (inb_of q2 ⟨h0, h1⟩) (g := mkF m pc Ls (.int w :: .int j :: .ref a :: S)) rfl rfl (hb hby hd)
  refine own_go stp (k _ _ _ ⟨X', hx, hZ, hby, hml, hown, eT', Fr.snoc X' N hg, by rw [W.size]; exact hsz, hlk⟩ W ⟨kc, ?_, by rw [List.length_set]; exact hlen⟩)
  rw [List.map_set]
  exact Arv.set A q1 q2 q3 H F rfl W i hj (by rw [List.length_map, ← hj]; exact own_idx hlen h0 h1)
theorem own_lastore (X : own_A l Z own cb ml n0 p e R s m args below meth c T h locs cells slots) {a : Addr} {z j : Int32} {w x : Int64} {xs : List Int64} (V : own_W Z h a z xs) (hg : n0 ≤ a) (hy : w = x) (i : Nat) (hj : j.toNatClampNeg = i) (h0 : ¬ j < 0) (h1 : j < z)
    (hd : decode cb pc = .ok (.lastore, 1)) (hp : pc + 1 = pc') (k : ∀ T' h' locs', own_A l Z own cb ml n0 p e R s m args below meth c T' h' locs' cells slots → Wr h h' a j.toNatClampNeg (.long x) → own_W Z h' a z (xs.set i x) → own_E p e below G (T'.setTop (mkF m pc' Ls S))) : own_E p e below G (T.setTop (mkF m pc Ls (.long w :: .int j :: .ref a :: S))) := by
  obtain ⟨X, hx, hZ, hby, hml, hown, eT, N, hsz, hlk⟩ := X
  obtain ⟨kc, ⟨cl, A, q1, q2, q3, H, F⟩, hlen⟩ := V
  subst hp; subst hy
  obtain ⟨T', h', X', eT', W, stp⟩ := stJ X hx hZ eT A (j := j) (x := w) (inb_of q2 ⟨h0, h1⟩) (g := mkF m pc Ls (.long w :: .int j :: .ref a :: S)) rfl rfl (hb hby hd)
  refine own_go stp (k _ _ _ ⟨X', hx, hZ, hby, hml, hown, eT', Fr.snoc X' N hg, by rw [W.size]; exact hsz, hlk⟩ W ⟨kc, ?_, by rw [List.length_set]; exact hlen⟩)
  rw [List.map_set]
  exact Arv.set A q1 q2 q3 H F rfl W i hj (by rw [List.length_map, ← hj]; exact own_idx hlen h0 h1)
theorem own_baload (X : own_A l Z own cb ml n0 p e R s m args below meth c T h locs cells slots) {a : Addr} {z j y : Int32} {xs : List Int32} (V : own_V Z h a .byte z xs) (h0 : ¬ j < 0) (h1 : j < z) (hy : xs.getD j.toNatClampNeg 0 = y) (hd : decode cb pc = .ok (.baload, 1)) (hp : pc + 1 = pc') (k : own_E p e below G (T.setTop (mkF m pc' Ls (.int y :: S)))) : own_E p e below G (T.setTop (mkF m pc Ls (.int j :: .ref a :: S))) := by
  obtain ⟨X, hx, hZ, hby, hml, hown, eT, N, hsz, hlk⟩ := X
  obtain ⟨kc, ⟨cl, A, q1, q2, q3, H, F⟩, hlen⟩ := V
  subst hp
  have hin := inb_of q2 (j := j) ⟨h0, h1⟩
  exact own_go (X.baloadBytes hx (j := j) (v := .int y) (by rw [eT]; exact A.1) (State.isArrayOf_alike hZ.alike A.2.1) A.2.2 hin (H.at hin (by rw [own_mapI, hy])) (g := mkF m pc Ls (.int j :: .ref a :: S)) rfl rfl (hb hby hd)) k
theorem own_iaload (X : own_A l Z own cb ml n0 p e R s m args below meth c T h locs cells slots) {a : Addr} {z j y : Int32} {xs : List Int32} (V : own_V Z h a .int z xs) (h0 : ¬ j < 0) (h1 : j < z) (hy : xs.getD j.toNatClampNeg 0 = y) (hd : decode cb pc = .ok (.iaload, 1)) (hp : pc + 1 = pc') (k : own_E p e below G (T.setTop (mkF m pc' Ls (.int y :: S)))) : own_E p e below G (T.setTop (mkF m pc Ls (.int j :: .ref a :: S))) := by
  obtain ⟨X, hx, hZ, hby, hml, hown, eT, N, hsz, hlk⟩ := X
  obtain ⟨kc, ⟨cl, A, q1, q2, q3, H, F⟩, hlen⟩ := V
  subst hp
  have hin := inb_of q2 (j := j) ⟨h0, h1⟩
  exact own_go (X.iaload hx (j := j) (v := .int y) (by rw [eT]; exact A.1) (State.isArrayOf_alike hZ.alike A.2.1) A.2.2 hin (H.at hin (by rw [own_mapI, hy])) (g := mkF m pc Ls (.int j :: .ref a :: S)) rfl rfl (hb hby hd)) k
theorem own_laload (X : own_A l Z own cb ml n0 p e R s m args below meth c T h locs cells slots) {a : Addr} {z j : Int32} {y : Int64} {xs : List Int64} (V : own_W Z h a z xs) (h0 : ¬ j < 0) (h1 : j < z) (hy : xs.getD j.toNatClampNeg 0 = y) (hd : decode cb pc = .ok (.laload, 1)) (hp : pc + 1 = pc') (k : own_E p e below G (T.setTop (mkF m pc' Ls (.long y :: S)))) : own_E p e below G (T.setTop (mkF m pc Ls (.int j :: .ref a :: S))) := by
  obtain ⟨X, hx, hZ, hby, hml, hown, eT, N, hsz, hlk⟩ := X
  obtain ⟨kc, ⟨cl, A, q1, q2, q3, H, F⟩, hlen⟩ := V
  subst hp
  have hin := inb_of q2 (j := j) ⟨h0, h1⟩
  exact own_go (X.laload hx (j := j) (v := .long y) (by rw [eT]; exact A.1) (State.isArrayOf_alike hZ.alike A.2.1) A.2.2 hin (H.at hin (by rw [own_mapL, hy])) (g := mkF m pc Ls (.int j :: .ref a :: S)) rfl rfl (hb hby hd)) k
theorem own_alen (X : own_A l Z own cb ml n0 p e R s m args below meth c T h locs cells slots) {a : Addr} {z : Int32} {ty : FieldType} {xs : List Int32} (V : own_V Z h a ty z xs) (hd : decode cb pc = .ok (.arraylength, 1)) (hp : pc + 1 = pc') (k : own_E p e below G (T.setTop (mkF m pc' Ls (.int z :: S)))) : own_E p e below G (T.setTop (mkF m pc Ls (.ref a :: S))) := by
  obtain ⟨X, hx, hZ, hby, hml, hown, eT, N, hsz, hlk⟩ := X
  obtain ⟨kc, ⟨cl, A, q1, q2, q3, H, F⟩, hlen⟩ := V
  subst hp
  refine own_go (X.arraylength hx (by rw [eT]; exact A.1) (State.isArrayOf_alike hZ.alike A.2.1) (g := mkF m pc Ls (.ref a :: S)) rfl rfl (hb hby hd)) ?_
  rw [len_of q2 q3]; exact k
end OwnKit
/-! OWN NUMBERS -/
theorem own_adL {a b : Int64} (h1 : -9223372036854775808 ≤ a.toInt + b.toInt) (h2 : a.toInt + b.toInt < 9223372036854775808) : (a + b).toInt = a.toInt + b.toInt := by
  rw [Int64.toInt_add]; exact Int.bmod_eq_of_le_mul_two (by omega) (by omega)
theorem own_sbL {a b : Int64} (h1 : -9223372036854775808 ≤ a.toInt - b.toInt) (h2 : a.toInt - b.toInt < 9223372036854775808) : (a - b).toInt = a.toInt - b.toInt := by
  rw [Int64.toInt_sub]; exact Int.bmod_eq_of_le_mul_two (by omega) (by omega)
theorem own_mlL {a b : Int64} (h1 : -9223372036854775808 ≤ a.toInt * b.toInt) (h2 : a.toInt * b.toInt < 9223372036854775808) : (a * b).toInt = a.toInt * b.toInt := by
  rw [Int64.toInt_mul]; exact Int.bmod_eq_of_le_mul_two (by omega) (by omega)
theorem own_ad {a b : Int32} (h1 : -2147483648 ≤ a.toInt + b.toInt) (h2 : a.toInt + b.toInt < 2147483648) : (a + b).toInt = a.toInt + b.toInt := by
  rw [Int32.toInt_add]; exact Int.bmod_eq_of_le_mul_two (by omega) (by omega)
theorem own_sb {a b : Int32} (h1 : -2147483648 ≤ a.toInt - b.toInt) (h2 : a.toInt - b.toInt < 2147483648) : (a - b).toInt = a.toInt - b.toInt := by
  rw [Int32.toInt_sub]; exact Int.bmod_eq_of_le_mul_two (by omega) (by omega)
theorem own_ml {a b : Int32} (h1 : -2147483648 ≤ a.toInt * b.toInt) (h2 : a.toInt * b.toInt < 2147483648) : (a * b).toInt = a.toInt * b.toInt := by
  rw [Int32.toInt_mul]; exact Int.bmod_eq_of_le_mul_two (by omega) (by omega)
theorem own_dvL {a b : Int64} (h0 : 0 ≤ a.toInt) (h1 : 0 < b.toInt) : (a / b).toInt = a.toInt / b.toInt := by
  rw [Int64.toInt_div, Int.tdiv_eq_ediv_of_nonneg h0]
  have := Int64.toInt_lt a
  have h2 : a.toInt / b.toInt ≤ a.toInt := Int.ediv_le_self _ h0
  have h3 : 0 ≤ a.toInt / b.toInt := Int.ediv_nonneg h0 (by omega)
  exact Int.bmod_eq_of_le_mul_two (by omega) (by omega)
theorem own_dv {a b : Int32} (h0 : 0 ≤ a.toInt) (h1 : 0 < b.toInt) : (a / b).toInt = a.toInt / b.toInt := by
  rw [Int32.toInt_div, Int.tdiv_eq_ediv_of_nonneg h0]
  have := Int32.toInt_lt a
  have h2 : a.toInt / b.toInt ≤ a.toInt := Int.ediv_le_self _ h0
  have h3 : 0 ≤ a.toInt / b.toInt := Int.ediv_nonneg h0 (by omega)
  exact Int.bmod_eq_of_le_mul_two (by omega) (by omega)
theorem own_rmL {a b : Int64} (h0 : 0 ≤ a.toInt) : (a % b).toInt = a.toInt % b.toInt := by
  rw [Int64.toInt_mod, Int.tmod_eq_emod_of_nonneg h0]
theorem own_rm {a b : Int32} (h0 : 0 ≤ a.toInt) : (a % b).toInt = a.toInt % b.toInt := by
  rw [Int32.toInt_mod, Int.tmod_eq_emod_of_nonneg h0]
theorem own_ltL {a b : Int64} : a < b ↔ a.toInt < b.toInt := Int64.lt_iff_toInt_lt
theorem own_lt {a b : Int32} : a < b ↔ a.toInt < b.toInt := Int32.lt_iff_toInt_lt
theorem own_eqL {a b : Int64} : a = b ↔ a.toInt = b.toInt := Int64.toInt_inj.symm
theorem own_eq {a b : Int32} : a = b ↔ a.toInt = b.toInt := Int32.toInt_inj.symm
theorem own_mkL {a b : Int64} {k : Nat} (hk : k < 64) (hb : b.toBitVec.toNat = 2 ^ k - 1) : (a &&& b).toInt = a.toInt % (2 ^ k : Nat) := by
  have e : (a &&& b).toBitVec.toNat = a.toBitVec.toNat % 2 ^ k := by rw [Int64.toBitVec_and, BitVec.toNat_and, hb, Nat.and_two_pow_sub_one_eq_mod]
  have hlt : a.toBitVec.toNat % 2 ^ k < 2 ^ 63 := Nat.lt_of_lt_of_le (Nat.mod_lt _ (Nat.two_pow_pos k)) (Nat.pow_le_pow_right (by decide) (by omega))
  have e2 : (a &&& b).toInt = ((a.toBitVec.toNat % 2 ^ k : Nat) : Int) := by
    show (a &&& b).toBitVec.toInt = _
    rw [BitVec.toInt_eq_toNat_cond, e, if_pos (by omega)]
  rw [e2]
  show _ = a.toBitVec.toInt % _
  rw [BitVec.toInt_eq_toNat_cond]
  have hd : ((2 ^ 64 : Nat) : Int) % ((2 ^ k : Nat) : Int) = 0 := by
    rw [← Int.natCast_emod, Nat.mod_eq_zero_of_dvd (Nat.pow_dvd_pow 2 (by omega))]; rfl
  split
  · rw [Int.natCast_emod]
  · rw [Int.sub_emod, hd, Int.sub_zero, Int.emod_emod_of_dvd _ (Int.dvd_refl _), Int.natCast_emod]
theorem own_mk {a b : Int32} {k : Nat} (hk : k < 32) (hb : b.toBitVec.toNat = 2 ^ k - 1) : (a &&& b).toInt = a.toInt % (2 ^ k : Nat) := by
  have e : (a &&& b).toBitVec.toNat = a.toBitVec.toNat % 2 ^ k := by rw [Int32.toBitVec_and, BitVec.toNat_and, hb, Nat.and_two_pow_sub_one_eq_mod]
  have hlt : a.toBitVec.toNat % 2 ^ k < 2 ^ 31 := Nat.lt_of_lt_of_le (Nat.mod_lt _ (Nat.two_pow_pos k)) (Nat.pow_le_pow_right (by decide) (by omega))
  have e2 : (a &&& b).toInt = ((a.toBitVec.toNat % 2 ^ k : Nat) : Int) := by
    show (a &&& b).toBitVec.toInt = _
    rw [BitVec.toInt_eq_toNat_cond, e, if_pos (by omega)]
  rw [e2]
  show _ = a.toBitVec.toInt % _
  rw [BitVec.toInt_eq_toNat_cond]
  have hd : ((2 ^ 32 : Nat) : Int) % ((2 ^ k : Nat) : Int) = 0 := by
    rw [← Int.natCast_emod, Nat.mod_eq_zero_of_dvd (Nat.pow_dvd_pow 2 (by omega))]; rfl
  split
  · rw [Int.natCast_emod]
  · rw [Int.sub_emod, hd, Int.sub_zero, Int.emod_emod_of_dvd _ (Int.dvd_refl _), Int.natCast_emod]
theorem own_AL {a b : Int64} {x y : Int} (ha : a.toInt = x) (hb : b.toInt = y) (h1 : -9223372036854775808 ≤ x + y) (h2 : x + y < 9223372036854775808) : (a + b).toInt = x + y := by subst ha hb; exact own_adL h1 h2
theorem own_SL {a b : Int64} {x y : Int} (ha : a.toInt = x) (hb : b.toInt = y) (h1 : -9223372036854775808 ≤ x - y) (h2 : x - y < 9223372036854775808) : (a - b).toInt = x - y := by subst ha hb; exact own_sbL h1 h2
theorem own_ML {a b : Int64} {x y : Int} (ha : a.toInt = x) (hb : b.toInt = y) (h1 : -9223372036854775808 ≤ x * y) (h2 : x * y < 9223372036854775808) : (a * b).toInt = x * y := by subst ha hb; exact own_mlL h1 h2
theorem own_DL {a b : Int64} {x y : Int} (ha : a.toInt = x) (hb : b.toInt = y) (h1 : 0 ≤ x) (h2 : 0 < y) : (a / b).toInt = x / y := by subst ha hb; exact own_dvL h1 h2
theorem own_RL {a b : Int64} {x y : Int} (ha : a.toInt = x) (hb : b.toInt = y) (h1 : 0 ≤ x) : (a % b).toInt = x % y := by subst ha hb; exact own_rmL h1
theorem own_AI {a b : Int32} {x y : Int} (ha : a.toInt = x) (hb : b.toInt = y) (h1 : -2147483648 ≤ x + y) (h2 : x + y < 2147483648) : (a + b).toInt = x + y := by subst ha hb; exact own_ad h1 h2
theorem own_SI {a b : Int32} {x y : Int} (ha : a.toInt = x) (hb : b.toInt = y) (h1 : -2147483648 ≤ x - y) (h2 : x - y < 2147483648) : (a - b).toInt = x - y := by subst ha hb; exact own_sb h1 h2
theorem own_MI {a b : Int32} {x y : Int} (ha : a.toInt = x) (hb : b.toInt = y) (h1 : -2147483648 ≤ x * y) (h2 : x * y < 2147483648) : (a * b).toInt = x * y := by subst ha hb; exact own_ml h1 h2
theorem own_DI {a b : Int32} {x y : Int} (ha : a.toInt = x) (hb : b.toInt = y) (h1 : 0 ≤ x) (h2 : 0 < y) : (a / b).toInt = x / y := by subst ha hb; exact own_dv h1 h2
theorem own_RI {a b : Int32} {x y : Int} (ha : a.toInt = x) (hb : b.toInt = y) (h1 : 0 ≤ x) : (a % b).toInt = x % y := by subst ha hb; exact own_rm h1
theorem own_pos {z : Int32} (h : ¬ z < 0) (h1 : ¬ z = 0) : (0 : Int32) < z := by
  have e0 : (0 : Int32).toInt = 0 := rfl
  rw [own_lt] at *; rw [own_eq] at h1; omega
theorem own_last {z : Int32} (h : (0 : Int32) < z) : ¬ z - 1 < 0 ∧ z - 1 < z := by
  have e0 : (0 : Int32).toInt = 0 := rfl
  have e1 : (1 : Int32).toInt = 1 := rfl
  have hl := Int32.toInt_lt z
  rw [own_lt] at h
  have a : (z - 1).toInt = z.toInt - 1 := own_SI rfl e1 (by omega) (by omega)
  rw [own_lt, own_lt]; omega
theorem own_gs {α : Type} (l : List α) (i j : Nat) (v d : α) (hi : i < l.length) : (l.set i v).getD j d = if i = j then v else l.getD j d := by
  simp only [List.getD_eq_getElem?_getD]
  by_cases h : i = j
  · subst h; rw [if_pos rfl, List.getElem?_set_self hi]; rfl
  · rw [if_neg h, List.getElem?_set_ne h]
theorem own_cl {n : Int32} {k : Int} (h : n.toInt = k) : n.toNatClampNeg = k.toNat := by subst h; rfl
theorem own_b8 {t : Int32} (h0 : -128 ≤ t.toInt) (h1 : t.toInt < 128) : t.toInt8.toInt32 = t := by
  rw [own_eq, Int8.toInt_toInt32, Int32.toInt_toInt8]
  exact Int.bmod_eq_of_le_mul_two (by omega) (by omega)
theorem own_i8 {t : Int32} {x : Int} (h : t.toInt = x) : (t.toInt8.toInt32).toInt = (x + 128) % 256 - 128 := by
  subst h
  rw [Int8.toInt_toInt32, Int32.toInt_toInt8, Int.bmod_def]
  split <;> omega
theorem own_shrI {a b : Int32} {x : Int} {k : Nat} (h : a.toInt = x) (hb : (b.toBitVec.smod (BitVec.ofNat 32 32)).toNat = k) : (a >>> b).toInt = x / (2 ^ k : Nat) := by
  subst h; subst hb
  show (a.toBitVec.sshiftRight' (b.toBitVec.smod (BitVec.ofNat 32 32))).toInt = _
  rw [BitVec.toInt_sshiftRight', Int.shiftRight_eq_div_pow]; rfl
theorem own_shlI {a b : Int32} {x : Int} {k : Nat} (h : a.toInt = x) (hb : (b.toBitVec.smod (BitVec.ofNat 32 32)).toNat = k) (h1 : -2147483648 ≤ x * (2 ^ k : Nat)) (h2 : x * (2 ^ k : Nat) < 2147483648) : (a <<< b).toInt = x * (2 ^ k : Nat) := by
  subst h; subst hb
  show (a.toBitVec <<< (b.toBitVec.smod (BitVec.ofNat 32 32))).toInt = a.toBitVec.toInt * _
  rw [BitVec.shiftLeft_eq', BitVec.toInt_shiftLeft, Nat.shiftLeft_eq, BitVec.toInt_eq_toNat_bmod]
  rw [show ((a.toBitVec.toNat * 2 ^ (b.toBitVec.smod (BitVec.ofNat 32 32)).toNat : Nat) : Int) = (a.toBitVec.toNat : Int) * ((2 ^ (b.toBitVec.smod (BitVec.ofNat 32 32)).toNat : Nat) : Int) from by simp]
  rw [← Int.bmod_mul_bmod]
  have e : ((a.toBitVec.toNat : Int).bmod (2 ^ 32)) = a.toInt := (BitVec.toInt_eq_toNat_bmod _).symm
  rw [e]
  exact Int.bmod_eq_of_le_mul_two (by omega) (by omega)
theorem own_orI {a b : Int32} {x y : Int} (k : Nat) (ha : a.toInt = x) (hb : b.toInt = y) (hk : k ≤ 31) (hx : x % (2 ^ k : Nat) = 0) (h0 : 0 ≤ y) (h1 : y < (2 ^ k : Nat)) (h2 : 0 ≤ x) : (a ||| b).toInt = x + y := by
  have la := a.toBitVec.isLt; have lb := b.toBitVec.isLt
  have na : (a.toBitVec.toNat : Int) = x := by
    have : a.toBitVec.toInt = x := ha
    rw [BitVec.toInt_eq_toNat_cond] at this; split at this <;> omega
  have nb : (b.toBitVec.toNat : Int) = y := by
    have : b.toBitVec.toInt = y := hb
    rw [BitVec.toInt_eq_toNat_cond] at this; split at this <;> omega
  have hm : a.toBitVec.toNat % 2 ^ k = 0 := by
    have : ((a.toBitVec.toNat % 2 ^ k : Nat) : Int) = 0 := by rw [Int.natCast_emod, na]; exact hx
    omega
  have hl : b.toBitVec.toNat < 2 ^ k := by omega
  have ho : a.toBitVec.toNat ||| b.toBitVec.toNat = a.toBitVec.toNat + b.toBitVec.toNat := by
    have hd : a.toBitVec.toNat = 2 ^ k * (a.toBitVec.toNat / 2 ^ k) := by
      have := Nat.div_add_mod a.toBitVec.toNat (2 ^ k); omega
    rw [hd, Nat.two_pow_add_eq_or_of_lt hl]
  have q : (a ||| b).toBitVec.toNat = a.toBitVec.toNat + b.toBitVec.toNat := by rw [Int32.toBitVec_or, BitVec.toNat_or, ho]
  have hA : a.toBitVec.toNat < 2 ^ 31 := by
    have : a.toBitVec.toInt = x := ha
    rw [BitVec.toInt_eq_toNat_cond] at this; split at this <;> omega
  have hB : b.toBitVec.toNat < 2 ^ 31 := by
    have : b.toBitVec.toInt = y := hb
    rw [BitVec.toInt_eq_toNat_cond] at this; split at this <;> omega
  have hS : a.toBitVec.toNat + b.toBitVec.toNat < 2 ^ 31 := by rw [← ho]; exact Nat.or_lt_two_pow hA hB
  show (a ||| b).toBitVec.toInt = _
  rw [BitVec.toInt_eq_toNat_cond, q, if_pos (by omega)]
  omega
theorem own_yes {c : Prop} [d : Decidable c] {a b r : Int32} (h : c) (h2 : a = r) : (if c then a else b) = r := (if_pos h).trans h2
theorem own_no {c : Prop} [d : Decidable c] {a b r : Int32} (h : ¬ c) (h2 : b = r) : (if c then a else b) = r := (if_neg h).trans h2
theorem own_d1_0 : decode prog_16_method_4_code 0 = .ok (.aload_n 1, 1) := by decide +kernel
theorem own_d1_1 : decode prog_16_method_4_code 1 = .ok (.iload_n 2, 1) := by decide +kernel
theorem own_d1_2 : decode prog_16_method_4_code 2 = .ok (.bipush 48, 2) := by decide +kernel
theorem own_d1_4 : decode prog_16_method_4_code 4 = .ok (.iload_n 0, 1) := by decide +kernel
theorem own_d1_5 : decode prog_16_method_4_code 5 = .ok (.bipush 100, 2) := by decide +kernel
theorem own_d1_7 : decode prog_16_method_4_code 7 = .ok (.idiv, 1) := by decide +kernel
theorem own_d1_8 : decode prog_16_method_4_code 8 = .ok (.iadd, 1) := by decide +kernel
theorem own_d1_9 : decode prog_16_method_4_code 9 = .ok (.i2b, 1) := by decide +kernel
theorem own_d1_10 : decode prog_16_method_4_code 10 = .ok (.bastore, 1) := by decide +kernel
theorem own_d1_11 : decode prog_16_method_4_code 11 = .ok (.aload_n 1, 1) := by decide +kernel
theorem own_d1_12 : decode prog_16_method_4_code 12 = .ok (.iload_n 2, 1) := by decide +kernel
theorem own_d1_13 : decode prog_16_method_4_code 13 = .ok (.iconst 1, 1) := by decide +kernel
theorem own_d1_14 : decode prog_16_method_4_code 14 = .ok (.iadd, 1) := by decide +kernel
theorem own_d1_15 : decode prog_16_method_4_code 15 = .ok (.bipush 48, 2) := by decide +kernel
theorem own_d1_17 : decode prog_16_method_4_code 17 = .ok (.iload_n 0, 1) := by decide +kernel
theorem own_d1_18 : decode prog_16_method_4_code 18 = .ok (.bipush 10, 2) := by decide +kernel
theorem own_d1_20 : decode prog_16_method_4_code 20 = .ok (.idiv, 1) := by decide +kernel
theorem own_d1_21 : decode prog_16_method_4_code 21 = .ok (.bipush 10, 2) := by decide +kernel
theorem own_d1_23 : decode prog_16_method_4_code 23 = .ok (.irem, 1) := by decide +kernel
theorem own_d1_24 : decode prog_16_method_4_code 24 = .ok (.iadd, 1) := by decide +kernel
theorem own_d1_25 : decode prog_16_method_4_code 25 = .ok (.i2b, 1) := by decide +kernel
theorem own_d1_26 : decode prog_16_method_4_code 26 = .ok (.bastore, 1) := by decide +kernel
theorem own_d1_27 : decode prog_16_method_4_code 27 = .ok (.aload_n 1, 1) := by decide +kernel
theorem own_d1_28 : decode prog_16_method_4_code 28 = .ok (.iload_n 2, 1) := by decide +kernel
theorem own_d1_29 : decode prog_16_method_4_code 29 = .ok (.iconst 2, 1) := by decide +kernel
theorem own_d1_30 : decode prog_16_method_4_code 30 = .ok (.iadd, 1) := by decide +kernel
theorem own_d1_31 : decode prog_16_method_4_code 31 = .ok (.bipush 48, 2) := by decide +kernel
theorem own_d1_33 : decode prog_16_method_4_code 33 = .ok (.iload_n 0, 1) := by decide +kernel
theorem own_d1_34 : decode prog_16_method_4_code 34 = .ok (.bipush 10, 2) := by decide +kernel
theorem own_d1_36 : decode prog_16_method_4_code 36 = .ok (.irem, 1) := by decide +kernel
theorem own_d1_37 : decode prog_16_method_4_code 37 = .ok (.iadd, 1) := by decide +kernel
theorem own_d1_38 : decode prog_16_method_4_code 38 = .ok (.i2b, 1) := by decide +kernel
theorem own_d1_39 : decode prog_16_method_4_code 39 = .ok (.bastore, 1) := by decide +kernel
theorem own_d1_40 : decode prog_16_method_4_code 40 = .ok (.return_, 1) := by decide +kernel
theorem own_ef1 (p1 : Int32) (a2 : Addr) (p3 : Int32) (m : MethodId) : entryFrame m #[(.int p1), (.ref a2), (.int p3)] 3 = mkF m 0 #[.val (.int p1), .val (.ref a2), .val (.int p3)] [] := by first | (simp [entryFrame, mkF, argsToLocals, Value.category]; done) | rfl
theorem own_pf1 : plainFor (⟨"com/example/orderflot/orderflot/fix/CheckSum", "write", "(I[BI)V"⟩ : MethodName) = true := by first | exact plainFor_of_name (by first | (simp [plainName, overriddenIn]; done) | decide +kernel) | decide +kernel
def own_v1_10 (p1 : Int32) : Int32 := (((48 : Int32) + (p1 / (100 : Int32))).toInt8.toInt32)
def own_v1_26 (p1 : Int32) : Int32 := (((48 : Int32) + ((p1 / (10 : Int32)) % (10 : Int32))).toInt8.toInt32)
def own_v1_39 (p1 : Int32) : Int32 := (((48 : Int32) + (p1 % (10 : Int32))).toInt8.toInt32)
def own_F1_a2 (p1 : Int32) (xs_a2 : List Int32) (p3 : Int32) : List Int32 := (List.set (List.set (List.set xs_a2 (p3.toNatClampNeg) (own_v1_10 p1)) ((p3 + (1 : Int32)).toNatClampNeg) (own_v1_26 p1)) ((p3 + (2 : Int32)).toNatClampNeg) (own_v1_39 p1))
-- LEMMAS
theorem own_at {p k : Int32} (hp : ¬ p < (0 : Int32)) (hq : ¬ (3 : Int32) < p) (k0 : 0 ≤ k.toInt) (k1 : k.toInt ≤ 2) : (p + k).toInt = p.toInt + k.toInt ∧ ¬ p + k < 0 ∧ p + k < 6 := by
  have e0 : (0 : Int32).toInt = 0 := rfl
  have e3 : (3 : Int32).toInt = 3 := rfl
  have e6 : (6 : Int32).toInt = 6 := rfl
  simp only [own_lt, e0, e3, e6] at *
  have a : (p + k).toInt = p.toInt + k.toInt := own_AI rfl rfl (by omega) (by omega)
  exact ⟨a, by omega, by omega⟩
theorem own_at0 {p : Int32} (hq : ¬ (3 : Int32) < p) : p < 6 := by
  have e3 : (3 : Int32).toInt = 3 := rfl
  have e6 : (6 : Int32).toInt = 6 := rfl
  simp only [own_lt, e3, e6] at *; omega
-- END LEMMAS
set_option maxRecDepth 65536 in
set_option maxHeartbeats 40000000 in
theorem own_rm1 (l : Launch) (Z : State) (a0 : Array Value) (hw : ∀ d ∈ tables_1, d.before a0 Z = true) (p1 : Int32) (a2 : Addr) (xs_a2 : List Int32) (p3 : Int32) (h0 : Heap) (n0 : Nat) (Z0 : n0 ≤ h0.size) (V_a2 : own_V Z h0 a2 .byte (6 : Int32) xs_a2) (g_a2 : n0 ≤ a2) (hp : ¬ p3 < (0 : Int32)) (hq : ¬ (3 : Int32) < p3) :
    own_Con l Z (⟨"com/example/orderflot/orderflot/fix/CheckSum", "write", "(I[BI)V"⟩ : MethodName) prog_16_method_4_code 3 none ({ frames := 0, cells := 0, slots := 0, locals := 0 } : Room) #[(.int p1), (.ref a2), (.int p3)] h0 n0 (fun v h => v = none ∧ Keep h0 h [a2] ∧ own_V Z h a2 .byte (6 : Int32) (own_F1_a2 p1 xs_a2 p3)) := by
  refine own_enter own_pf1 Z0 (own_ef1 p1 a2 p3) ?_
  intro p e s m below meth c T0 X0 hret hnm
  refine own_aloadN X0 own_d1_0 (pc' := 1) rfl (v := (.ref a2)) rfl rfl ?_
  refine own_iloadN X0 own_d1_1 (pc' := 2) rfl (v := p3) rfl ?_
  refine own_bipush X0 own_d1_2 (pc' := 4) rfl (z := (48 : Int32)) rfl ?_
  refine own_iloadN X0 own_d1_4 (pc' := 5) rfl (v := p1) rfl ?_
  refine own_bipush X0 own_d1_5 (pc' := 7) rfl (z := (100 : Int32)) rfl ?_
  refine own_idiv X0 own_d1_7 (pc' := 8) rfl (by decide) (z := (p1 / (100 : Int32))) rfl ?_
  refine own_iadd X0 own_d1_8 (pc' := 9) rfl (z := ((48 : Int32) + (p1 / (100 : Int32)))) rfl ?_
  refine own_i2b X0 own_d1_9 (pc' := 10) rfl (z := (((48 : Int32) + (p1 / (100 : Int32))).toInt8.toInt32)) rfl ?_
  refine own_bastore X0 V_a2 g_a2 (y := (own_v1_10 p1)) (own_nb _) (p3.toNatClampNeg) rfl hp (own_at0 hq) own_d1_10 (pc' := 11) rfl fun T1 h2 lc4 X3 W5 V6 => ?_
  have K7 := Keep.wr (Keep.refl h0 [a2]) W5 (Or.inl (List.mem_of_getElem? (i := 0) rfl))
  refine own_aloadN X3 own_d1_11 (pc' := 12) rfl (v := (.ref a2)) rfl rfl ?_
  refine own_iloadN X3 own_d1_12 (pc' := 13) rfl (v := p3) rfl ?_
  refine own_iconst X3 own_d1_13 (pc' := 14) rfl (z := (1 : Int32)) rfl ?_
  refine own_iadd X3 own_d1_14 (pc' := 15) rfl (z := (p3 + (1 : Int32))) rfl ?_
  refine own_bipush X3 own_d1_15 (pc' := 17) rfl (z := (48 : Int32)) rfl ?_
  refine own_iloadN X3 own_d1_17 (pc' := 18) rfl (v := p1) rfl ?_
  refine own_bipush X3 own_d1_18 (pc' := 20) rfl (z := (10 : Int32)) rfl ?_
  refine own_idiv X3 own_d1_20 (pc' := 21) rfl (by decide) (z := (p1 / (10 : Int32))) rfl ?_
  refine own_bipush X3 own_d1_21 (pc' := 23) rfl (z := (10 : Int32)) rfl ?_
  refine own_irem X3 own_d1_23 (pc' := 24) rfl (by decide) (z := ((p1 / (10 : Int32)) % (10 : Int32))) rfl ?_
  refine own_iadd X3 own_d1_24 (pc' := 25) rfl (z := ((48 : Int32) + ((p1 / (10 : Int32)) % (10 : Int32)))) rfl ?_
  refine own_i2b X3 own_d1_25 (pc' := 26) rfl (z := (((48 : Int32) + ((p1 / (10 : Int32)) % (10 : Int32))).toInt8.toInt32)) rfl ?_
  refine own_bastore X3 V6 g_a2 (y := (own_v1_26 p1)) (own_nb _) ((p3 + (1 : Int32)).toNatClampNeg) rfl (own_at hp hq (by decide) (by decide)).2.1 (own_at hp hq (by decide) (by decide)).2.2 own_d1_26 (pc' := 27) rfl fun T8 h9 lc11 X10 W12 V13 => ?_
  have K14 := Keep.wr K7 W12 (Or.inl (List.mem_of_getElem? (i := 0) rfl))
  refine own_aloadN X10 own_d1_27 (pc' := 28) rfl (v := (.ref a2)) rfl rfl ?_
  refine own_iloadN X10 own_d1_28 (pc' := 29) rfl (v := p3) rfl ?_
  refine own_iconst X10 own_d1_29 (pc' := 30) rfl (z := (2 : Int32)) rfl ?_
  refine own_iadd X10 own_d1_30 (pc' := 31) rfl (z := (p3 + (2 : Int32))) rfl ?_
  refine own_bipush X10 own_d1_31 (pc' := 33) rfl (z := (48 : Int32)) rfl ?_
  refine own_iloadN X10 own_d1_33 (pc' := 34) rfl (v := p1) rfl ?_
  refine own_bipush X10 own_d1_34 (pc' := 36) rfl (z := (10 : Int32)) rfl ?_
  refine own_irem X10 own_d1_36 (pc' := 37) rfl (by decide) (z := (p1 % (10 : Int32))) rfl ?_
  refine own_iadd X10 own_d1_37 (pc' := 38) rfl (z := ((48 : Int32) + (p1 % (10 : Int32)))) rfl ?_
  refine own_i2b X10 own_d1_38 (pc' := 39) rfl (z := (((48 : Int32) + (p1 % (10 : Int32))).toInt8.toInt32)) rfl ?_
  refine own_bastore X10 V13 g_a2 (y := (own_v1_39 p1)) (own_nb _) ((p3 + (2 : Int32)).toNatClampNeg) rfl (own_at hp hq (by decide) (by decide)).2.1 (own_at hp hq (by decide) (by decide)).2.2 own_d1_39 (pc' := 40) rfl fun T15 h16 lc18 X17 W19 V20 => ?_
  have K21 := Keep.wr K14 W19 (Or.inl (List.mem_of_getElem? (i := 0) rfl))
  refine own_vret X17 hret own_d1_40 (by decide) (by decide) ?_
  exact ⟨rfl, K21, (V20.cast (show (List.set (List.set (List.set xs_a2 (p3.toNatClampNeg) (own_v1_10 p1)) ((p3 + (1 : Int32)).toNatClampNeg) (own_v1_26 p1)) ((p3 + (2 : Int32)).toNatClampNeg) (own_v1_39 p1)) = own_F1_a2 p1 xs_a2 p3 from rfl))⟩
theorem own_d2_0 : decode method_2_code 0 = .ok (.iload_n 0, 1) := by decide +kernel
theorem own_d2_1 : decode method_2_code 1 = .ok (.bipush 48, 2) := by decide +kernel
theorem own_d2_3 : decode method_2_code 3 = .ok (.if_icmp .lt 13, 3) := by decide +kernel
theorem own_d2_6 : decode method_2_code 6 = .ok (.iload_n 0, 1) := by decide +kernel
theorem own_d2_7 : decode method_2_code 7 = .ok (.bipush 57, 2) := by decide +kernel
theorem own_d2_9 : decode method_2_code 9 = .ok (.if_icmp .gt 7, 3) := by decide +kernel
theorem own_d2_12 : decode method_2_code 12 = .ok (.iconst 1, 1) := by decide +kernel
theorem own_d2_13 : decode method_2_code 13 = .ok (.goto 4, 3) := by decide +kernel
theorem own_d2_16 : decode method_2_code 16 = .ok (.iconst 0, 1) := by decide +kernel
theorem own_d2_17 : decode method_2_code 17 = .ok (.ireturn, 1) := by decide +kernel
theorem own_ef2 (p1 : Int32) (m : MethodId) : entryFrame m #[(.int p1)] 1 = mkF m 0 #[.val (.int p1)] [] := by first | (simp [entryFrame, mkF, argsToLocals, Value.category]; done) | rfl
theorem own_pf2 : plainFor (⟨"com/example/orderflot/orderflot/fix/CheckSumWritePinLaw", "isDigit", "(B)Z"⟩ : MethodName) = true := by first | exact plainFor_of_name (by first | (simp [plainName, overriddenIn]; done) | decide +kernel) | decide +kernel
def own_F2 (p1 : Int32) : Int32 := (if p1 < (48 : Int32) then (0 : Int32) else (if (57 : Int32) < p1 then (0 : Int32) else (1 : Int32)))
set_option maxRecDepth 65536 in
set_option maxHeartbeats 40000000 in
theorem own_rm2 (l : Launch) (Z : State) (a0 : Array Value) (hw : ∀ d ∈ tables_1, d.before a0 Z = true) (p1 : Int32) (h0 : Heap) (n0 : Nat) (Z0 : n0 ≤ h0.size) :
    own_Con l Z (⟨"com/example/orderflot/orderflot/fix/CheckSumWritePinLaw", "isDigit", "(B)Z"⟩ : MethodName) method_2_code 1 (some .boolean) ({ frames := 0, cells := 0, slots := 0, locals := 0 } : Room) #[(.int p1)] h0 n0 (fun v h => v = some (.int (own_F2 p1)) ∧ h = h0) := by
  refine own_enter own_pf2 Z0 (own_ef2 p1) ?_
  intro p e s m below meth c T0 X0 hret hnm
  refine own_iloadN X0 own_d2_0 (pc' := 1) rfl (v := p1) rfl ?_
  refine own_bipush X0 own_d2_1 (pc' := 3) rfl (z := (48 : Int32)) rfl ?_
  by_cases hc1 : p1 < (48 : Int32)
  · refine own_icmpY X0 own_d2_3 (tlt hc1).1 (by decide) (pc' := 16) rfl ?_
    refine own_iconst X0 own_d2_16 (pc' := 17) rfl (z := (0 : Int32)) rfl ?_
    refine own_iret X0 (t := .boolean) (w := (0 : Int32)) hret (by simp) own_d2_17 rfl (by decide) (by decide) ?_
    exact ⟨congrArg (fun t => some (Value.int t)) (show (0 : Int32) = own_F2 p1 from (by rw [own_F2, if_pos hc1])), rfl⟩
  · refine own_icmpN X0 own_d2_3 (flt hc1).1 (pc' := 6) rfl ?_
    refine own_iloadN X0 own_d2_6 (pc' := 7) rfl (v := p1) rfl ?_
    refine own_bipush X0 own_d2_7 (pc' := 9) rfl (z := (57 : Int32)) rfl ?_
    by_cases hc2 : (57 : Int32) < p1
    · refine own_icmpY X0 own_d2_9 (tlt hc2).2.2.1 (by decide) (pc' := 16) rfl ?_
      refine own_iconst X0 own_d2_16 (pc' := 17) rfl (z := (0 : Int32)) rfl ?_
      refine own_iret X0 (t := .boolean) (w := (0 : Int32)) hret (by simp) own_d2_17 rfl (by decide) (by decide) ?_
      exact ⟨congrArg (fun t => some (Value.int t)) (show (0 : Int32) = own_F2 p1 from (by rw [own_F2, if_neg hc1, if_pos hc2])), rfl⟩
    · refine own_icmpN X0 own_d2_9 (flt hc2).2.2.1 (pc' := 12) rfl ?_
      refine own_iconst X0 own_d2_12 (pc' := 13) rfl (z := (1 : Int32)) rfl ?_
      refine own_goto X0 own_d2_13 (by decide) (pc' := 17) rfl ?_
      refine own_iret X0 (t := .boolean) (w := (1 : Int32)) hret (by simp) own_d2_17 rfl (by decide) (by decide) ?_
      exact ⟨congrArg (fun t => some (Value.int t)) (show (1 : Int32) = own_F2 p1 from (by rw [own_F2, if_neg hc1, if_neg hc2])), rfl⟩
theorem own_d3_0 : decode method_3_code 0 = .ok (.iload_n 2, 1) := by decide +kernel
theorem own_d3_1 : decode method_3_code 1 = .ok (.iload_n 3, 1) := by decide +kernel
theorem own_d3_2 : decode method_3_code 2 = .ok (.if_icmp .lt 10, 3) := by decide +kernel
theorem own_d3_5 : decode method_3_code 5 = .ok (.iload_n 2, 1) := by decide +kernel
theorem own_d3_6 : decode method_3_code 6 = .ok (.iload_n 3, 1) := by decide +kernel
theorem own_d3_7 : decode method_3_code 7 = .ok (.iconst 3, 1) := by decide +kernel
theorem own_d3_8 : decode method_3_code 8 = .ok (.iadd, 1) := by decide +kernel
theorem own_d3_9 : decode method_3_code 9 = .ok (.if_icmp .lt 18, 3) := by decide +kernel
theorem own_d3_12 : decode method_3_code 12 = .ok (.aload_n 0, 1) := by decide +kernel
theorem own_d3_13 : decode method_3_code 13 = .ok (.iload_n 2, 1) := by decide +kernel
theorem own_d3_14 : decode method_3_code 14 = .ok (.baload, 1) := by decide +kernel
theorem own_d3_15 : decode method_3_code 15 = .ok (.aload_n 1, 1) := by decide +kernel
theorem own_d3_16 : decode method_3_code 16 = .ok (.iload_n 2, 1) := by decide +kernel
theorem own_d3_17 : decode method_3_code 17 = .ok (.baload, 1) := by decide +kernel
theorem own_d3_18 : decode method_3_code 18 = .ok (.if_icmp .ne 7, 3) := by decide +kernel
theorem own_d3_21 : decode method_3_code 21 = .ok (.iconst 1, 1) := by decide +kernel
theorem own_d3_22 : decode method_3_code 22 = .ok (.goto 4, 3) := by decide +kernel
theorem own_d3_25 : decode method_3_code 25 = .ok (.iconst 0, 1) := by decide +kernel
theorem own_d3_26 : decode method_3_code 26 = .ok (.ireturn, 1) := by decide +kernel
theorem own_d3_27 : decode method_3_code 27 = .ok (.iconst 1, 1) := by decide +kernel
theorem own_d3_28 : decode method_3_code 28 = .ok (.ireturn, 1) := by decide +kernel
theorem own_ef3 (a1 : Addr) (a2 : Addr) (p3 : Int32) (p4 : Int32) (m : MethodId) : entryFrame m #[(.ref a1), (.ref a2), (.int p3), (.int p4)] 4 = mkF m 0 #[.val (.ref a1), .val (.ref a2), .val (.int p3), .val (.int p4)] [] := by first | (simp [entryFrame, mkF, argsToLocals, Value.category]; done) | rfl
theorem own_pf3 : plainFor (⟨"com/example/orderflot/orderflot/fix/CheckSumWritePinLaw", "untouchedOutside", "([B[BII)Z"⟩ : MethodName) = true := by first | exact plainFor_of_name (by first | (simp [plainName, overriddenIn]; done) | decide +kernel) | decide +kernel
def own_F3 (xs_a1 : List Int32) (xs_a2 : List Int32) (p3 : Int32) (p4 : Int32) : Int32 := (if p3 < p4 then (if (List.getD xs_a1 (p3.toNatClampNeg) 0) = (List.getD xs_a2 (p3.toNatClampNeg) 0) then (1 : Int32) else (0 : Int32)) else (if p3 < (p4 + (3 : Int32)) then (1 : Int32) else (if (List.getD xs_a1 (p3.toNatClampNeg) 0) = (List.getD xs_a2 (p3.toNatClampNeg) 0) then (1 : Int32) else (0 : Int32))))
set_option maxRecDepth 65536 in
set_option maxHeartbeats 40000000 in
theorem own_rm3 (l : Launch) (Z : State) (a0 : Array Value) (hw : ∀ d ∈ tables_1, d.before a0 Z = true) (a1 : Addr) (xs_a1 : List Int32) (a2 : Addr) (xs_a2 : List Int32) (p3 : Int32) (p4 : Int32) (h0 : Heap) (n0 : Nat) (Z0 : n0 ≤ h0.size) (V_a1 : own_V Z h0 a1 .byte (6 : Int32) xs_a1) (V_a2 : own_V Z h0 a2 .byte (6 : Int32) xs_a2) (hi : ¬ p3 < (0 : Int32)) (hj : p3 < (6 : Int32)) :
    own_Con l Z (⟨"com/example/orderflot/orderflot/fix/CheckSumWritePinLaw", "untouchedOutside", "([B[BII)Z"⟩ : MethodName) method_3_code 4 (some .boolean) ({ frames := 0, cells := 0, slots := 0, locals := 0 } : Room) #[(.ref a1), (.ref a2), (.int p3), (.int p4)] h0 n0 (fun v h => v = some (.int (own_F3 xs_a1 xs_a2 p3 p4)) ∧ h = h0) := by
  refine own_enter own_pf3 Z0 (own_ef3 a1 a2 p3 p4) ?_
  intro p e s m below meth c T0 X0 hret hnm
  refine own_iloadN X0 own_d3_0 (pc' := 1) rfl (v := p3) rfl ?_
  refine own_iloadN X0 own_d3_1 (pc' := 2) rfl (v := p4) rfl ?_
  by_cases hc1 : p3 < p4
  · refine own_icmpY X0 own_d3_2 (tlt hc1).1 (by decide) (pc' := 12) rfl ?_
    refine own_aloadN X0 own_d3_12 (pc' := 13) rfl (v := (.ref a1)) rfl rfl ?_
    refine own_iloadN X0 own_d3_13 (pc' := 14) rfl (v := p3) rfl ?_
    refine own_baload X0 V_a1 hi hj (y := (List.getD xs_a1 (p3.toNatClampNeg) 0)) rfl own_d3_14 (pc' := 15) rfl ?_
    refine own_aloadN X0 own_d3_15 (pc' := 16) rfl (v := (.ref a2)) rfl rfl ?_
    refine own_iloadN X0 own_d3_16 (pc' := 17) rfl (v := p3) rfl ?_
    refine own_baload X0 V_a2 hi hj (y := (List.getD xs_a2 (p3.toNatClampNeg) 0)) rfl own_d3_17 (pc' := 18) rfl ?_
    by_cases hc2 : (List.getD xs_a1 (p3.toNatClampNeg) 0) = (List.getD xs_a2 (p3.toNatClampNeg) 0)
    · refine own_icmpN X0 own_d3_18 (teq hc2).2 (pc' := 21) rfl ?_
      refine own_iconst X0 own_d3_21 (pc' := 22) rfl (z := (1 : Int32)) rfl ?_
      refine own_goto X0 own_d3_22 (by decide) (pc' := 26) rfl ?_
      refine own_iret X0 (t := .boolean) (w := (1 : Int32)) hret (by simp) own_d3_26 rfl (by decide) (by decide) ?_
      exact ⟨congrArg (fun t => some (Value.int t)) (show (1 : Int32) = own_F3 xs_a1 xs_a2 p3 p4 from (by rw [own_F3, if_pos hc1, if_pos hc2])), rfl⟩
    · refine own_icmpY X0 own_d3_18 (feq hc2).2 (by decide) (pc' := 25) rfl ?_
      refine own_iconst X0 own_d3_25 (pc' := 26) rfl (z := (0 : Int32)) rfl ?_
      refine own_iret X0 (t := .boolean) (w := (0 : Int32)) hret (by simp) own_d3_26 rfl (by decide) (by decide) ?_
      exact ⟨congrArg (fun t => some (Value.int t)) (show (0 : Int32) = own_F3 xs_a1 xs_a2 p3 p4 from (by rw [own_F3, if_pos hc1, if_neg hc2])), rfl⟩
  · refine own_icmpN X0 own_d3_2 (flt hc1).1 (pc' := 5) rfl ?_
    refine own_iloadN X0 own_d3_5 (pc' := 6) rfl (v := p3) rfl ?_
    refine own_iloadN X0 own_d3_6 (pc' := 7) rfl (v := p4) rfl ?_
    refine own_iconst X0 own_d3_7 (pc' := 8) rfl (z := (3 : Int32)) rfl ?_
    refine own_iadd X0 own_d3_8 (pc' := 9) rfl (z := (p4 + (3 : Int32))) rfl ?_
    by_cases hc3 : p3 < (p4 + (3 : Int32))
    · refine own_icmpY X0 own_d3_9 (tlt hc3).1 (by decide) (pc' := 27) rfl ?_
      refine own_iconst X0 own_d3_27 (pc' := 28) rfl (z := (1 : Int32)) rfl ?_
      refine own_iret X0 (t := .boolean) (w := (1 : Int32)) hret (by simp) own_d3_28 rfl (by decide) (by decide) ?_
      exact ⟨congrArg (fun t => some (Value.int t)) (show (1 : Int32) = own_F3 xs_a1 xs_a2 p3 p4 from (by rw [own_F3, if_neg hc1, if_pos hc3])), rfl⟩
    · refine own_icmpN X0 own_d3_9 (flt hc3).1 (pc' := 12) rfl ?_
      refine own_aloadN X0 own_d3_12 (pc' := 13) rfl (v := (.ref a1)) rfl rfl ?_
      refine own_iloadN X0 own_d3_13 (pc' := 14) rfl (v := p3) rfl ?_
      refine own_baload X0 V_a1 hi hj (y := (List.getD xs_a1 (p3.toNatClampNeg) 0)) rfl own_d3_14 (pc' := 15) rfl ?_
      refine own_aloadN X0 own_d3_15 (pc' := 16) rfl (v := (.ref a2)) rfl rfl ?_
      refine own_iloadN X0 own_d3_16 (pc' := 17) rfl (v := p3) rfl ?_
      refine own_baload X0 V_a2 hi hj (y := (List.getD xs_a2 (p3.toNatClampNeg) 0)) rfl own_d3_17 (pc' := 18) rfl ?_
      by_cases hc4 : (List.getD xs_a1 (p3.toNatClampNeg) 0) = (List.getD xs_a2 (p3.toNatClampNeg) 0)
      · refine own_icmpN X0 own_d3_18 (teq hc4).2 (pc' := 21) rfl ?_
        refine own_iconst X0 own_d3_21 (pc' := 22) rfl (z := (1 : Int32)) rfl ?_
        refine own_goto X0 own_d3_22 (by decide) (pc' := 26) rfl ?_
        refine own_iret X0 (t := .boolean) (w := (1 : Int32)) hret (by simp) own_d3_26 rfl (by decide) (by decide) ?_
        exact ⟨congrArg (fun t => some (Value.int t)) (show (1 : Int32) = own_F3 xs_a1 xs_a2 p3 p4 from (by rw [own_F3, if_neg hc1, if_neg hc3, if_pos hc4])), rfl⟩
      · refine own_icmpY X0 own_d3_18 (feq hc4).2 (by decide) (pc' := 25) rfl ?_
        refine own_iconst X0 own_d3_25 (pc' := 26) rfl (z := (0 : Int32)) rfl ?_
        refine own_iret X0 (t := .boolean) (w := (0 : Int32)) hret (by simp) own_d3_26 rfl (by decide) (by decide) ?_
        exact ⟨congrArg (fun t => some (Value.int t)) (show (0 : Int32) = own_F3 xs_a1 xs_a2 p3 p4 from (by rw [own_F3, if_neg hc1, if_neg hc3, if_neg hc4])), rfl⟩
theorem own_pd0 : parseMethodDescriptor "(I[BI)V" = some ⟨[.int, (.array .byte), .int], none⟩ := by decide +kernel
theorem own_pd1 : parseMethodDescriptor "(B)Z" = some ⟨[.byte], some .boolean⟩ := by decide +kernel
theorem own_pd2 : parseMethodDescriptor "([B[BII)Z" = some ⟨[(.array .byte), (.array .byte), .int, .int], some .boolean⟩ := by decide +kernel
theorem own_ef0 (p1 : Int32) (p2 : Int32) (p3 : Int32) (p4 : Int32) (m : MethodId) : entryFrame m #[(.int p1), (.int p2), (.int p3), (.int p4)] maxLocals = mkF m 0 #[.val (.int p1), .val (.int p2), .val (.int p3), .val (.int p4), .unset, .unset, .unset, .unset, .unset, .unset, .unset, .unset] [] := by first | (simp [entryFrame, mkF, argsToLocals, Value.category, maxLocals]; done) | rfl
theorem own_pf0 : plainFor x = true := by first | exact plainFor_of_name (by first | (simp [plainName, overriddenIn]; done) | decide +kernel) | decide +kernel
def own_v0_13 (p2 : Int32) : Int32 := ((p2 &&& (2147483647 : Int32)) % (4 : Int32))
def own_v0_35 (p3 : Int32) : Int32 := ((p3 >>> (8 : Int32)).toInt8.toInt32)
def own_v0_44 (p3 : Int32) : Int32 := ((p3 >>> (16 : Int32)).toInt8.toInt32)
def own_v0_59 (p4 : Int32) : Int32 := ((p4 >>> (8 : Int32)).toInt8.toInt32)
def own_v0_68 (p4 : Int32) : Int32 := ((p4 >>> (16 : Int32)).toInt8.toInt32)
def own_v0_137 (p1 : Int32) (p2 : Int32) (p3 : Int32) (p4 : Int32) : Int32 := (List.getD (own_F1_a2 (p1 &&& (255 : Int32)) [(p3.toInt8.toInt32), (own_v0_35 p3), (own_v0_44 p3), (p4.toInt8.toInt32), (own_v0_59 p4), (own_v0_68 p4)] (own_v0_13 p2)) ((own_v0_13 p2).toNatClampNeg) 0)
def own_v0_146 (p1 : Int32) (p2 : Int32) (p3 : Int32) (p4 : Int32) : Int32 := (List.getD (own_F1_a2 (p1 &&& (255 : Int32)) [(p3.toInt8.toInt32), (own_v0_35 p3), (own_v0_44 p3), (p4.toInt8.toInt32), (own_v0_59 p4), (own_v0_68 p4)] (own_v0_13 p2)) (((own_v0_13 p2) + (1 : Int32)).toNatClampNeg) 0)
def own_v0_155 (p1 : Int32) (p2 : Int32) (p3 : Int32) (p4 : Int32) : Int32 := (List.getD (own_F1_a2 (p1 &&& (255 : Int32)) [(p3.toInt8.toInt32), (own_v0_35 p3), (own_v0_44 p3), (p4.toInt8.toInt32), (own_v0_59 p4), (own_v0_68 p4)] (own_v0_13 p2)) (((own_v0_13 p2) + (2 : Int32)).toNatClampNeg) 0)
def own_v0_206 (p1 : Int32) (p2 : Int32) (p3 : Int32) (p4 : Int32) : Int32 := (((((own_v0_137 p1 p2 p3 p4) - (48 : Int32)) * (100 : Int32)) + (((own_v0_146 p1 p2 p3 p4) - (48 : Int32)) * (10 : Int32))) + ((own_v0_155 p1 p2 p3 p4) - (48 : Int32)))
def own_v0_224 (p1 : Int32) (p2 : Int32) (p3 : Int32) (p4 : Int32) : Int32 := (own_F3 (own_F1_a2 (p1 &&& (255 : Int32)) [(p3.toInt8.toInt32), (own_v0_35 p3), (own_v0_44 p3), (p4.toInt8.toInt32), (own_v0_59 p4), (own_v0_68 p4)] (own_v0_13 p2)) [(p3.toInt8.toInt32), (own_v0_35 p3), (own_v0_44 p3), (p4.toInt8.toInt32), (own_v0_59 p4), (own_v0_68 p4)] (0 : Int32) (own_v0_13 p2))
def own_v0_237 (p1 : Int32) (p2 : Int32) (p3 : Int32) (p4 : Int32) : Int32 := (own_F3 (own_F1_a2 (p1 &&& (255 : Int32)) [(p3.toInt8.toInt32), (own_v0_35 p3), (own_v0_44 p3), (p4.toInt8.toInt32), (own_v0_59 p4), (own_v0_68 p4)] (own_v0_13 p2)) [(p3.toInt8.toInt32), (own_v0_35 p3), (own_v0_44 p3), (p4.toInt8.toInt32), (own_v0_59 p4), (own_v0_68 p4)] (1 : Int32) (own_v0_13 p2))
def own_v0_250 (p1 : Int32) (p2 : Int32) (p3 : Int32) (p4 : Int32) : Int32 := (own_F3 (own_F1_a2 (p1 &&& (255 : Int32)) [(p3.toInt8.toInt32), (own_v0_35 p3), (own_v0_44 p3), (p4.toInt8.toInt32), (own_v0_59 p4), (own_v0_68 p4)] (own_v0_13 p2)) [(p3.toInt8.toInt32), (own_v0_35 p3), (own_v0_44 p3), (p4.toInt8.toInt32), (own_v0_59 p4), (own_v0_68 p4)] (2 : Int32) (own_v0_13 p2))
def own_v0_263 (p1 : Int32) (p2 : Int32) (p3 : Int32) (p4 : Int32) : Int32 := (own_F3 (own_F1_a2 (p1 &&& (255 : Int32)) [(p3.toInt8.toInt32), (own_v0_35 p3), (own_v0_44 p3), (p4.toInt8.toInt32), (own_v0_59 p4), (own_v0_68 p4)] (own_v0_13 p2)) [(p3.toInt8.toInt32), (own_v0_35 p3), (own_v0_44 p3), (p4.toInt8.toInt32), (own_v0_59 p4), (own_v0_68 p4)] (3 : Int32) (own_v0_13 p2))
def own_v0_276 (p1 : Int32) (p2 : Int32) (p3 : Int32) (p4 : Int32) : Int32 := (own_F3 (own_F1_a2 (p1 &&& (255 : Int32)) [(p3.toInt8.toInt32), (own_v0_35 p3), (own_v0_44 p3), (p4.toInt8.toInt32), (own_v0_59 p4), (own_v0_68 p4)] (own_v0_13 p2)) [(p3.toInt8.toInt32), (own_v0_35 p3), (own_v0_44 p3), (p4.toInt8.toInt32), (own_v0_59 p4), (own_v0_68 p4)] (4 : Int32) (own_v0_13 p2))
def own_v0_289 (p1 : Int32) (p2 : Int32) (p3 : Int32) (p4 : Int32) : Int32 := (own_F3 (own_F1_a2 (p1 &&& (255 : Int32)) [(p3.toInt8.toInt32), (own_v0_35 p3), (own_v0_44 p3), (p4.toInt8.toInt32), (own_v0_59 p4), (own_v0_68 p4)] (own_v0_13 p2)) [(p3.toInt8.toInt32), (own_v0_35 p3), (own_v0_44 p3), (p4.toInt8.toInt32), (own_v0_59 p4), (own_v0_68 p4)] (5 : Int32) (own_v0_13 p2))
def own_F0 (p1 : Int32) (p2 : Int32) (p3 : Int32) (p4 : Int32) : Int32 := (if (own_F2 (own_v0_137 p1 p2 p3 p4)) = (0 : Int32) then (0 : Int32) else (if (own_F2 (own_v0_146 p1 p2 p3 p4)) = (0 : Int32) then (0 : Int32) else (if (own_F2 (own_v0_155 p1 p2 p3 p4)) = (0 : Int32) then (0 : Int32) else (if (own_v0_206 p1 p2 p3 p4) = (p1 &&& (255 : Int32)) then (if (own_v0_224 p1 p2 p3 p4) = (0 : Int32) then (0 : Int32) else (if (own_v0_237 p1 p2 p3 p4) = (0 : Int32) then (0 : Int32) else (if (own_v0_250 p1 p2 p3 p4) = (0 : Int32) then (0 : Int32) else (if (own_v0_263 p1 p2 p3 p4) = (0 : Int32) then (0 : Int32) else (if (own_v0_276 p1 p2 p3 p4) = (0 : Int32) then (0 : Int32) else (if (own_v0_289 p1 p2 p3 p4) = (0 : Int32) then (0 : Int32) else (1 : Int32))))))) else (0 : Int32)))))
-- LEMMAS
theorem own_m4 (p : Int32) : 0 ≤ ((p &&& 2147483647) % 4).toInt ∧ ((p &&& 2147483647) % 4).toInt ≤ 3 := by
  have a1 : (p &&& 2147483647).toInt = p.toInt % 2147483648 := own_mk (k := 31) (by decide) (by decide)
  have a2 : ((p &&& 2147483647) % 4).toInt = p.toInt % 2147483648 % 4 := own_RI a1 (show (4 : Int32).toInt = 4 from rfl) (by omega)
  omega
theorem own_p0 (p : Int32) : ¬ (p &&& 2147483647) % 4 < (0 : Int32) := by
  have e0 : (0 : Int32).toInt = 0 := rfl
  rw [own_lt]; have := own_m4 p; omega
theorem own_p3 (p : Int32) : ¬ (3 : Int32) < (p &&& 2147483647) % 4 := by
  have e0 : (3 : Int32).toInt = 3 := rfl
  rw [own_lt]; have := own_m4 p; omega
-- END LEMMAS
set_option maxRecDepth 65536 in
set_option maxHeartbeats 40000000 in
theorem own_rm0 (l : Launch) (Z : State) (a0 : Array Value) (hw : ∀ d ∈ tables_1, d.before a0 Z = true) (p1 : Int32) (p2 : Int32) (p3 : Int32) (p4 : Int32) (h0 : Heap) (n0 : Nat) (Z0 : n0 ≤ h0.size) :
    own_Con l Z x code maxLocals ret room_1 #[(.int p1), (.int p2), (.int p3), (.int p4)] h0 n0 (fun v h => v = some (.int (own_F0 p1 p2 p3 p4))) := by
  refine own_enter own_pf0 Z0 (own_ef0 p1 p2 p3 p4) ?_
  intro p e s m below meth c T0 X0 hret hnm
  refine own_iloadN X0 at_0 (pc' := 1) rfl (v := p1) rfl ?_
  refine own_sipush X0 at_1 (pc' := 4) rfl (z := (255 : Int32)) rfl ?_
  refine own_iand X0 at_4 (pc' := 5) rfl (z := (p1 &&& (255 : Int32))) rfl ?_
  refine own_istore X0 at_5 (pc' := 7) rfl (y := (p1 &&& (255 : Int32))) rfl (Ls' := #[.val (.int p1), .val (.int p2), .val (.int p3), .val (.int p4), .val (.int (p1 &&& (255 : Int32))), .unset, .unset, .unset, .unset, .unset, .unset, .unset]) rfl ?_
  refine own_iloadN X0 at_7 (pc' := 8) rfl (v := p2) rfl ?_
  refine own_ldc X0 (hw _ (List.mem_of_getElem? (i := 0) rfl)) at_8 (pc' := 10) rfl ?_
  refine own_iand X0 at_10 (pc' := 11) rfl (z := (p2 &&& (2147483647 : Int32))) rfl ?_
  refine own_iconst X0 at_11 (pc' := 12) rfl (z := (4 : Int32)) rfl ?_
  refine own_irem X0 at_12 (pc' := 13) rfl (by decide) (z := ((p2 &&& (2147483647 : Int32)) % (4 : Int32))) rfl ?_
  refine own_istore X0 at_13 (pc' := 15) rfl (y := (own_v0_13 p2)) rfl (Ls' := #[.val (.int p1), .val (.int p2), .val (.int p3), .val (.int p4), .val (.int (p1 &&& (255 : Int32))), .val (.int (own_v0_13 p2)), .unset, .unset, .unset, .unset, .unset, .unset]) rfl ?_
  refine own_bipush X0 at_15 (pc' := 17) rfl (z := (6 : Int32)) rfl ?_
  refine own_newV X0 rfl rfl (hw _ (List.mem_of_getElem? (i := 1) rfl)) (by decide) 6 (by decide) (by decide) (by decide) (by decide) at_17 (pc' := 19) rfl fun T2 h3 b1 X4 Ex5 hs6 g7 V8 => ?_
  replace V8 : own_V Z h3 b1 .byte (6 : Int32) [(0 : Int32), (0 : Int32), (0 : Int32), (0 : Int32), (0 : Int32), (0 : Int32)] := V8
  refine own_astore X4 at_19 (pc' := 21) rfl rfl (Ls' := #[.val (.int p1), .val (.int p2), .val (.int p3), .val (.int p4), .val (.int (p1 &&& (255 : Int32))), .val (.int (own_v0_13 p2)), .val (.ref b1), .unset, .unset, .unset, .unset, .unset]) rfl ?_
  refine own_aload X4 at_21 (pc' := 23) rfl (v := (.ref b1)) rfl rfl ?_
  refine own_iconst X4 at_23 (pc' := 24) rfl (z := (0 : Int32)) rfl ?_
  refine own_iloadN X4 at_24 (pc' := 25) rfl (v := p3) rfl ?_
  refine own_i2b X4 at_25 (pc' := 26) rfl (z := (p3.toInt8.toInt32)) rfl ?_
  refine own_bastore X4 V8 g7 (y := (p3.toInt8.toInt32)) (own_nb _) 0 rfl (by decide) (by decide) at_26 (pc' := 27) rfl fun T9 h10 lc12 X11 W13 V14 => ?_
  replace V14 : own_V Z h10 b1 .byte (6 : Int32) [(p3.toInt8.toInt32), (0 : Int32), (0 : Int32), (0 : Int32), (0 : Int32), (0 : Int32)] := V14
  refine own_aload X11 at_27 (pc' := 29) rfl (v := (.ref b1)) rfl rfl ?_
  refine own_iconst X11 at_29 (pc' := 30) rfl (z := (1 : Int32)) rfl ?_
  refine own_iloadN X11 at_30 (pc' := 31) rfl (v := p3) rfl ?_
  refine own_bipush X11 at_31 (pc' := 33) rfl (z := (8 : Int32)) rfl ?_
  refine own_ishr X11 at_33 (pc' := 34) rfl (z := (p3 >>> (8 : Int32))) rfl ?_
  refine own_i2b X11 at_34 (pc' := 35) rfl (z := ((p3 >>> (8 : Int32)).toInt8.toInt32)) rfl ?_
  refine own_bastore X11 V14 g7 (y := (own_v0_35 p3)) (own_nb _) 1 rfl (by decide) (by decide) at_35 (pc' := 36) rfl fun T15 h16 lc18 X17 W19 V20 => ?_
  replace V20 : own_V Z h16 b1 .byte (6 : Int32) [(p3.toInt8.toInt32), (own_v0_35 p3), (0 : Int32), (0 : Int32), (0 : Int32), (0 : Int32)] := V20
  refine own_aload X17 at_36 (pc' := 38) rfl (v := (.ref b1)) rfl rfl ?_
  refine own_iconst X17 at_38 (pc' := 39) rfl (z := (2 : Int32)) rfl ?_
  refine own_iloadN X17 at_39 (pc' := 40) rfl (v := p3) rfl ?_
  refine own_bipush X17 at_40 (pc' := 42) rfl (z := (16 : Int32)) rfl ?_
  refine own_ishr X17 at_42 (pc' := 43) rfl (z := (p3 >>> (16 : Int32))) rfl ?_
  refine own_i2b X17 at_43 (pc' := 44) rfl (z := ((p3 >>> (16 : Int32)).toInt8.toInt32)) rfl ?_
  refine own_bastore X17 V20 g7 (y := (own_v0_44 p3)) (own_nb _) 2 rfl (by decide) (by decide) at_44 (pc' := 45) rfl fun T21 h22 lc24 X23 W25 V26 => ?_
  replace V26 : own_V Z h22 b1 .byte (6 : Int32) [(p3.toInt8.toInt32), (own_v0_35 p3), (own_v0_44 p3), (0 : Int32), (0 : Int32), (0 : Int32)] := V26
  refine own_aload X23 at_45 (pc' := 47) rfl (v := (.ref b1)) rfl rfl ?_
  refine own_iconst X23 at_47 (pc' := 48) rfl (z := (3 : Int32)) rfl ?_
  refine own_iloadN X23 at_48 (pc' := 49) rfl (v := p4) rfl ?_
  refine own_i2b X23 at_49 (pc' := 50) rfl (z := (p4.toInt8.toInt32)) rfl ?_
  refine own_bastore X23 V26 g7 (y := (p4.toInt8.toInt32)) (own_nb _) 3 rfl (by decide) (by decide) at_50 (pc' := 51) rfl fun T27 h28 lc30 X29 W31 V32 => ?_
  replace V32 : own_V Z h28 b1 .byte (6 : Int32) [(p3.toInt8.toInt32), (own_v0_35 p3), (own_v0_44 p3), (p4.toInt8.toInt32), (0 : Int32), (0 : Int32)] := V32
  refine own_aload X29 at_51 (pc' := 53) rfl (v := (.ref b1)) rfl rfl ?_
  refine own_iconst X29 at_53 (pc' := 54) rfl (z := (4 : Int32)) rfl ?_
  refine own_iloadN X29 at_54 (pc' := 55) rfl (v := p4) rfl ?_
  refine own_bipush X29 at_55 (pc' := 57) rfl (z := (8 : Int32)) rfl ?_
  refine own_ishr X29 at_57 (pc' := 58) rfl (z := (p4 >>> (8 : Int32))) rfl ?_
  refine own_i2b X29 at_58 (pc' := 59) rfl (z := ((p4 >>> (8 : Int32)).toInt8.toInt32)) rfl ?_
  refine own_bastore X29 V32 g7 (y := (own_v0_59 p4)) (own_nb _) 4 rfl (by decide) (by decide) at_59 (pc' := 60) rfl fun T33 h34 lc36 X35 W37 V38 => ?_
  replace V38 : own_V Z h34 b1 .byte (6 : Int32) [(p3.toInt8.toInt32), (own_v0_35 p3), (own_v0_44 p3), (p4.toInt8.toInt32), (own_v0_59 p4), (0 : Int32)] := V38
  refine own_aload X35 at_60 (pc' := 62) rfl (v := (.ref b1)) rfl rfl ?_
  refine own_iconst X35 at_62 (pc' := 63) rfl (z := (5 : Int32)) rfl ?_
  refine own_iloadN X35 at_63 (pc' := 64) rfl (v := p4) rfl ?_
  refine own_bipush X35 at_64 (pc' := 66) rfl (z := (16 : Int32)) rfl ?_
  refine own_ishr X35 at_66 (pc' := 67) rfl (z := (p4 >>> (16 : Int32))) rfl ?_
  refine own_i2b X35 at_67 (pc' := 68) rfl (z := ((p4 >>> (16 : Int32)).toInt8.toInt32)) rfl ?_
  refine own_bastore X35 V38 g7 (y := (own_v0_68 p4)) (own_nb _) 5 rfl (by decide) (by decide) at_68 (pc' := 69) rfl fun T39 h40 lc42 X41 W43 V44 => ?_
  replace V44 : own_V Z h40 b1 .byte (6 : Int32) [(p3.toInt8.toInt32), (own_v0_35 p3), (own_v0_44 p3), (p4.toInt8.toInt32), (own_v0_59 p4), (own_v0_68 p4)] := V44
  refine own_bipush X41 at_69 (pc' := 71) rfl (z := (6 : Int32)) rfl ?_
  refine own_newV X41 rfl rfl (hw _ (List.mem_of_getElem? (i := 1) rfl)) (by decide) 6 (by decide) (by decide) (by decide) (by decide) at_71 (pc' := 73) rfl fun T46 h47 b45 X48 Ex49 hs50 g51 V52 => ?_
  have ne53 : b1 ≠ b45 := Nat.ne_of_lt (Nat.lt_of_lt_of_eq V44.lt hs50)
  have V54 := V44.ext Ex49
  replace V52 : own_V Z h47 b45 .byte (6 : Int32) [(0 : Int32), (0 : Int32), (0 : Int32), (0 : Int32), (0 : Int32), (0 : Int32)] := V52
  refine own_astore X48 at_73 (pc' := 75) rfl rfl (Ls' := #[.val (.int p1), .val (.int p2), .val (.int p3), .val (.int p4), .val (.int (p1 &&& (255 : Int32))), .val (.int (own_v0_13 p2)), .val (.ref b1), .val (.ref b45), .unset, .unset, .unset, .unset]) rfl ?_
  refine own_aload X48 at_75 (pc' := 77) rfl (v := (.ref b45)) rfl rfl ?_
  refine own_iconst X48 at_77 (pc' := 78) rfl (z := (0 : Int32)) rfl ?_
  refine own_aload X48 at_78 (pc' := 80) rfl (v := (.ref b1)) rfl rfl ?_
  refine own_iconst X48 at_80 (pc' := 81) rfl (z := (0 : Int32)) rfl ?_
  refine own_baload X48 V54 (by decide) (by decide) (y := (p3.toInt8.toInt32)) rfl at_81 (pc' := 82) rfl ?_
  refine own_bastore X48 V52 g51 (y := (p3.toInt8.toInt32)) (own_nb _) 0 rfl (by decide) (by decide) at_82 (pc' := 83) rfl fun T55 h56 lc58 X57 W59 V60 => ?_
  replace V60 : own_V Z h56 b45 .byte (6 : Int32) [(p3.toInt8.toInt32), (0 : Int32), (0 : Int32), (0 : Int32), (0 : Int32), (0 : Int32)] := V60
  have V61 := V54.other W59 ne53
  refine own_aload X57 at_83 (pc' := 85) rfl (v := (.ref b45)) rfl rfl ?_
  refine own_iconst X57 at_85 (pc' := 86) rfl (z := (1 : Int32)) rfl ?_
  refine own_aload X57 at_86 (pc' := 88) rfl (v := (.ref b1)) rfl rfl ?_
  refine own_iconst X57 at_88 (pc' := 89) rfl (z := (1 : Int32)) rfl ?_
  refine own_baload X57 V61 (by decide) (by decide) (y := (own_v0_35 p3)) rfl at_89 (pc' := 90) rfl ?_
  refine own_bastore X57 V60 g51 (y := (own_v0_35 p3)) (own_nb _) 1 rfl (by decide) (by decide) at_90 (pc' := 91) rfl fun T62 h63 lc65 X64 W66 V67 => ?_
  replace V67 : own_V Z h63 b45 .byte (6 : Int32) [(p3.toInt8.toInt32), (own_v0_35 p3), (0 : Int32), (0 : Int32), (0 : Int32), (0 : Int32)] := V67
  have V68 := V61.other W66 ne53
  refine own_aload X64 at_91 (pc' := 93) rfl (v := (.ref b45)) rfl rfl ?_
  refine own_iconst X64 at_93 (pc' := 94) rfl (z := (2 : Int32)) rfl ?_
  refine own_aload X64 at_94 (pc' := 96) rfl (v := (.ref b1)) rfl rfl ?_
  refine own_iconst X64 at_96 (pc' := 97) rfl (z := (2 : Int32)) rfl ?_
  refine own_baload X64 V68 (by decide) (by decide) (y := (own_v0_44 p3)) rfl at_97 (pc' := 98) rfl ?_
  refine own_bastore X64 V67 g51 (y := (own_v0_44 p3)) (own_nb _) 2 rfl (by decide) (by decide) at_98 (pc' := 99) rfl fun T69 h70 lc72 X71 W73 V74 => ?_
  replace V74 : own_V Z h70 b45 .byte (6 : Int32) [(p3.toInt8.toInt32), (own_v0_35 p3), (own_v0_44 p3), (0 : Int32), (0 : Int32), (0 : Int32)] := V74
  have V75 := V68.other W73 ne53
  refine own_aload X71 at_99 (pc' := 101) rfl (v := (.ref b45)) rfl rfl ?_
  refine own_iconst X71 at_101 (pc' := 102) rfl (z := (3 : Int32)) rfl ?_
  refine own_aload X71 at_102 (pc' := 104) rfl (v := (.ref b1)) rfl rfl ?_
  refine own_iconst X71 at_104 (pc' := 105) rfl (z := (3 : Int32)) rfl ?_
  refine own_baload X71 V75 (by decide) (by decide) (y := (p4.toInt8.toInt32)) rfl at_105 (pc' := 106) rfl ?_
  refine own_bastore X71 V74 g51 (y := (p4.toInt8.toInt32)) (own_nb _) 3 rfl (by decide) (by decide) at_106 (pc' := 107) rfl fun T76 h77 lc79 X78 W80 V81 => ?_
  replace V81 : own_V Z h77 b45 .byte (6 : Int32) [(p3.toInt8.toInt32), (own_v0_35 p3), (own_v0_44 p3), (p4.toInt8.toInt32), (0 : Int32), (0 : Int32)] := V81
  have V82 := V75.other W80 ne53
  refine own_aload X78 at_107 (pc' := 109) rfl (v := (.ref b45)) rfl rfl ?_
  refine own_iconst X78 at_109 (pc' := 110) rfl (z := (4 : Int32)) rfl ?_
  refine own_aload X78 at_110 (pc' := 112) rfl (v := (.ref b1)) rfl rfl ?_
  refine own_iconst X78 at_112 (pc' := 113) rfl (z := (4 : Int32)) rfl ?_
  refine own_baload X78 V82 (by decide) (by decide) (y := (own_v0_59 p4)) rfl at_113 (pc' := 114) rfl ?_
  refine own_bastore X78 V81 g51 (y := (own_v0_59 p4)) (own_nb _) 4 rfl (by decide) (by decide) at_114 (pc' := 115) rfl fun T83 h84 lc86 X85 W87 V88 => ?_
  replace V88 : own_V Z h84 b45 .byte (6 : Int32) [(p3.toInt8.toInt32), (own_v0_35 p3), (own_v0_44 p3), (p4.toInt8.toInt32), (own_v0_59 p4), (0 : Int32)] := V88
  have V89 := V82.other W87 ne53
  refine own_aload X85 at_115 (pc' := 117) rfl (v := (.ref b45)) rfl rfl ?_
  refine own_iconst X85 at_117 (pc' := 118) rfl (z := (5 : Int32)) rfl ?_
  refine own_aload X85 at_118 (pc' := 120) rfl (v := (.ref b1)) rfl rfl ?_
  refine own_iconst X85 at_120 (pc' := 121) rfl (z := (5 : Int32)) rfl ?_
  refine own_baload X85 V89 (by decide) (by decide) (y := (own_v0_68 p4)) rfl at_121 (pc' := 122) rfl ?_
  refine own_bastore X85 V88 g51 (y := (own_v0_68 p4)) (own_nb _) 5 rfl (by decide) (by decide) at_122 (pc' := 123) rfl fun T90 h91 lc93 X92 W94 V95 => ?_
  replace V95 : own_V Z h91 b45 .byte (6 : Int32) [(p3.toInt8.toInt32), (own_v0_35 p3), (own_v0_44 p3), (p4.toInt8.toInt32), (own_v0_59 p4), (own_v0_68 p4)] := V95
  have V96 := V89.other W94 ne53
  refine own_iload X92 at_123 (pc' := 125) rfl (v := (p1 &&& (255 : Int32))) rfl ?_
  refine own_aload X92 at_125 (pc' := 127) rfl (v := (.ref b45)) rfl rfl ?_
  refine own_iload X92 at_127 (pc' := 129) rfl (v := (own_v0_13 p2)) rfl ?_
  refine own_callS X92 (argsL := [(.int (p1 &&& (255 : Int32))), (.ref b45), (.int (own_v0_13 p2))]) (S := []) (own_rm1 l Z a0 hw (p1 &&& (255 : Int32)) b45 [(p3.toInt8.toInt32), (own_v0_35 p3), (own_v0_44 p3), (p4.toInt8.toInt32), (own_v0_59 p4), (own_v0_68 p4)] (own_v0_13 p2) h91 n0 X92.2.2.2.2.2.2.2.2.1 V95 g51 (own_p0 p2) (own_p3 p2)) (hw _ (List.mem_of_getElem? (i := 2) rfl)) (hw _ (List.mem_of_getElem? (i := 3) rfl)) (hw _ (List.mem_of_getElem? (i := 4) rfl)) (hw _ (List.mem_of_getElem? (i := 5) rfl)) (by decide) (by decide) 0 (by decide) rfl own_pd0 rfl rfl (Nat.le_of_eq rfl) (by decide) (by decide) at_129 (pc' := 132) rfl fun T97 h98 lc99 r100 X101 Q102 => ?_
  obtain ⟨rfl, K103, V104⟩ := Q102
  have V105 := V96.keep K103 (ninS ne53 nin0)
  show own_E p e below _ (T97.setTop (mkF m 132 #[.val (.int p1), .val (.int p2), .val (.int p3), .val (.int p4), .val (.int (p1 &&& (255 : Int32))), .val (.int (own_v0_13 p2)), .val (.ref b1), .val (.ref b45), .unset, .unset, .unset, .unset] []))
  refine own_aload X101 at_132 (pc' := 134) rfl (v := (.ref b45)) rfl rfl ?_
  refine own_iload X101 at_134 (pc' := 136) rfl (v := (own_v0_13 p2)) rfl ?_
  refine own_baload X101 V104 (own_p0 p2) (own_at0 (own_p3 p2)) (y := (List.getD (own_F1_a2 (p1 &&& (255 : Int32)) [(p3.toInt8.toInt32), (own_v0_35 p3), (own_v0_44 p3), (p4.toInt8.toInt32), (own_v0_59 p4), (own_v0_68 p4)] (own_v0_13 p2)) ((own_v0_13 p2).toNatClampNeg) 0)) rfl at_136 (pc' := 137) rfl ?_
  refine own_istore X101 at_137 (pc' := 139) rfl (y := (own_v0_137 p1 p2 p3 p4)) rfl (Ls' := #[.val (.int p1), .val (.int p2), .val (.int p3), .val (.int p4), .val (.int (p1 &&& (255 : Int32))), .val (.int (own_v0_13 p2)), .val (.ref b1), .val (.ref b45), .val (.int (own_v0_137 p1 p2 p3 p4)), .unset, .unset, .unset]) rfl ?_
  refine own_aload X101 at_139 (pc' := 141) rfl (v := (.ref b45)) rfl rfl ?_
  refine own_iload X101 at_141 (pc' := 143) rfl (v := (own_v0_13 p2)) rfl ?_
  refine own_iconst X101 at_143 (pc' := 144) rfl (z := (1 : Int32)) rfl ?_
  refine own_iadd X101 at_144 (pc' := 145) rfl (z := ((own_v0_13 p2) + (1 : Int32))) rfl ?_
  refine own_baload X101 V104 (own_at (own_p0 p2) (own_p3 p2) (by decide) (by decide)).2.1 (own_at (own_p0 p2) (own_p3 p2) (by decide) (by decide)).2.2 (y := (List.getD (own_F1_a2 (p1 &&& (255 : Int32)) [(p3.toInt8.toInt32), (own_v0_35 p3), (own_v0_44 p3), (p4.toInt8.toInt32), (own_v0_59 p4), (own_v0_68 p4)] (own_v0_13 p2)) (((own_v0_13 p2) + (1 : Int32)).toNatClampNeg) 0)) rfl at_145 (pc' := 146) rfl ?_
  refine own_istore X101 at_146 (pc' := 148) rfl (y := (own_v0_146 p1 p2 p3 p4)) rfl (Ls' := #[.val (.int p1), .val (.int p2), .val (.int p3), .val (.int p4), .val (.int (p1 &&& (255 : Int32))), .val (.int (own_v0_13 p2)), .val (.ref b1), .val (.ref b45), .val (.int (own_v0_137 p1 p2 p3 p4)), .val (.int (own_v0_146 p1 p2 p3 p4)), .unset, .unset]) rfl ?_
  refine own_aload X101 at_148 (pc' := 150) rfl (v := (.ref b45)) rfl rfl ?_
  refine own_iload X101 at_150 (pc' := 152) rfl (v := (own_v0_13 p2)) rfl ?_
  refine own_iconst X101 at_152 (pc' := 153) rfl (z := (2 : Int32)) rfl ?_
  refine own_iadd X101 at_153 (pc' := 154) rfl (z := ((own_v0_13 p2) + (2 : Int32))) rfl ?_
  refine own_baload X101 V104 (own_at (own_p0 p2) (own_p3 p2) (by decide) (by decide)).2.1 (own_at (own_p0 p2) (own_p3 p2) (by decide) (by decide)).2.2 (y := (List.getD (own_F1_a2 (p1 &&& (255 : Int32)) [(p3.toInt8.toInt32), (own_v0_35 p3), (own_v0_44 p3), (p4.toInt8.toInt32), (own_v0_59 p4), (own_v0_68 p4)] (own_v0_13 p2)) (((own_v0_13 p2) + (2 : Int32)).toNatClampNeg) 0)) rfl at_154 (pc' := 155) rfl ?_
  refine own_istore X101 at_155 (pc' := 157) rfl (y := (own_v0_155 p1 p2 p3 p4)) rfl (Ls' := #[.val (.int p1), .val (.int p2), .val (.int p3), .val (.int p4), .val (.int (p1 &&& (255 : Int32))), .val (.int (own_v0_13 p2)), .val (.ref b1), .val (.ref b45), .val (.int (own_v0_137 p1 p2 p3 p4)), .val (.int (own_v0_146 p1 p2 p3 p4)), .val (.int (own_v0_155 p1 p2 p3 p4)), .unset]) rfl ?_
  refine own_iload X101 at_157 (pc' := 159) rfl (v := (own_v0_137 p1 p2 p3 p4)) rfl ?_
  refine own_callS X101 (argsL := [(.int (own_v0_137 p1 p2 p3 p4))]) (S := []) (own_rm2 l Z a0 hw (own_v0_137 p1 p2 p3 p4) h98 n0 X101.2.2.2.2.2.2.2.2.1 ) (hw _ (List.mem_of_getElem? (i := 6) rfl)) (hw _ (List.mem_of_getElem? (i := 7) rfl)) (hw _ (List.mem_of_getElem? (i := 8) rfl)) (hw _ (List.mem_of_getElem? (i := 9) rfl)) (by decide) (by decide) 0 (by decide) rfl own_pd1 rfl rfl (Nat.le_of_eq rfl) (by decide) (by decide) at_159 (pc' := 162) rfl fun T106 h107 lc108 r109 X110 Q111 => ?_
  obtain ⟨rfl, e112⟩ := Q111
  replace e112 := e112.symm
  subst e112
  show own_E p e below _ (T106.setTop (mkF m 162 #[.val (.int p1), .val (.int p2), .val (.int p3), .val (.int p4), .val (.int (p1 &&& (255 : Int32))), .val (.int (own_v0_13 p2)), .val (.ref b1), .val (.ref b45), .val (.int (own_v0_137 p1 p2 p3 p4)), .val (.int (own_v0_146 p1 p2 p3 p4)), .val (.int (own_v0_155 p1 p2 p3 p4)), .unset] [(.int (own_F2 (own_v0_137 p1 p2 p3 p4)))]))
  by_cases hc113 : (own_F2 (own_v0_137 p1 p2 p3 p4)) = (0 : Int32)
  · refine own_ifY X110 at_162 (teq hc113).1 (by decide) (pc' := 181) rfl ?_
    refine own_iconst X110 at_181 (pc' := 182) rfl (z := (0 : Int32)) rfl ?_
    refine own_iret X110 (t := .boolean) (w := (0 : Int32)) hret (by simp) at_182 rfl (by decide) (by decide) ?_
    exact congrArg (fun t => some (Value.int t)) (show (0 : Int32) = own_F0 p1 p2 p3 p4 from (by rw [own_F0, if_pos hc113]))
  · refine own_ifN X110 at_162 (feq hc113).1 (pc' := 165) rfl ?_
    refine own_iload X110 at_165 (pc' := 167) rfl (v := (own_v0_146 p1 p2 p3 p4)) rfl ?_
    refine own_callS X110 (argsL := [(.int (own_v0_146 p1 p2 p3 p4))]) (S := []) (own_rm2 l Z a0 hw (own_v0_146 p1 p2 p3 p4) h98 n0 X110.2.2.2.2.2.2.2.2.1 ) (hw _ (List.mem_of_getElem? (i := 6) rfl)) (hw _ (List.mem_of_getElem? (i := 7) rfl)) (hw _ (List.mem_of_getElem? (i := 8) rfl)) (hw _ (List.mem_of_getElem? (i := 9) rfl)) (by decide) (by decide) 0 (by decide) rfl own_pd1 rfl rfl (Nat.le_of_eq rfl) (by decide) (by decide) at_167 (pc' := 170) rfl fun T114 h115 lc116 r117 X118 Q119 => ?_
    obtain ⟨rfl, e120⟩ := Q119
    replace e120 := e120.symm
    subst e120
    show own_E p e below _ (T114.setTop (mkF m 170 #[.val (.int p1), .val (.int p2), .val (.int p3), .val (.int p4), .val (.int (p1 &&& (255 : Int32))), .val (.int (own_v0_13 p2)), .val (.ref b1), .val (.ref b45), .val (.int (own_v0_137 p1 p2 p3 p4)), .val (.int (own_v0_146 p1 p2 p3 p4)), .val (.int (own_v0_155 p1 p2 p3 p4)), .unset] [(.int (own_F2 (own_v0_146 p1 p2 p3 p4)))]))
    by_cases hc121 : (own_F2 (own_v0_146 p1 p2 p3 p4)) = (0 : Int32)
    · refine own_ifY X118 at_170 (teq hc121).1 (by decide) (pc' := 181) rfl ?_
      refine own_iconst X118 at_181 (pc' := 182) rfl (z := (0 : Int32)) rfl ?_
      refine own_iret X118 (t := .boolean) (w := (0 : Int32)) hret (by simp) at_182 rfl (by decide) (by decide) ?_
      exact congrArg (fun t => some (Value.int t)) (show (0 : Int32) = own_F0 p1 p2 p3 p4 from (by rw [own_F0, if_neg hc113, if_pos hc121]))
    · refine own_ifN X118 at_170 (feq hc121).1 (pc' := 173) rfl ?_
      refine own_iload X118 at_173 (pc' := 175) rfl (v := (own_v0_155 p1 p2 p3 p4)) rfl ?_
      refine own_callS X118 (argsL := [(.int (own_v0_155 p1 p2 p3 p4))]) (S := []) (own_rm2 l Z a0 hw (own_v0_155 p1 p2 p3 p4) h98 n0 X118.2.2.2.2.2.2.2.2.1 ) (hw _ (List.mem_of_getElem? (i := 6) rfl)) (hw _ (List.mem_of_getElem? (i := 7) rfl)) (hw _ (List.mem_of_getElem? (i := 8) rfl)) (hw _ (List.mem_of_getElem? (i := 9) rfl)) (by decide) (by decide) 0 (by decide) rfl own_pd1 rfl rfl (Nat.le_of_eq rfl) (by decide) (by decide) at_175 (pc' := 178) rfl fun T122 h123 lc124 r125 X126 Q127 => ?_
      obtain ⟨rfl, e128⟩ := Q127
      replace e128 := e128.symm
      subst e128
      show own_E p e below _ (T122.setTop (mkF m 178 #[.val (.int p1), .val (.int p2), .val (.int p3), .val (.int p4), .val (.int (p1 &&& (255 : Int32))), .val (.int (own_v0_13 p2)), .val (.ref b1), .val (.ref b45), .val (.int (own_v0_137 p1 p2 p3 p4)), .val (.int (own_v0_146 p1 p2 p3 p4)), .val (.int (own_v0_155 p1 p2 p3 p4)), .unset] [(.int (own_F2 (own_v0_155 p1 p2 p3 p4)))]))
      by_cases hc129 : (own_F2 (own_v0_155 p1 p2 p3 p4)) = (0 : Int32)
      · refine own_ifN X126 at_178 (teq hc129).2 (pc' := 181) rfl ?_
        refine own_iconst X126 at_181 (pc' := 182) rfl (z := (0 : Int32)) rfl ?_
        refine own_iret X126 (t := .boolean) (w := (0 : Int32)) hret (by simp) at_182 rfl (by decide) (by decide) ?_
        exact congrArg (fun t => some (Value.int t)) (show (0 : Int32) = own_F0 p1 p2 p3 p4 from (by rw [own_F0, if_neg hc113, if_neg hc121, if_pos hc129]))
      · refine own_ifY X126 at_178 (feq hc129).2 (by decide) (pc' := 183) rfl ?_
        refine own_iload X126 at_183 (pc' := 185) rfl (v := (own_v0_137 p1 p2 p3 p4)) rfl ?_
        refine own_bipush X126 at_185 (pc' := 187) rfl (z := (48 : Int32)) rfl ?_
        refine own_isub X126 at_187 (pc' := 188) rfl (z := ((own_v0_137 p1 p2 p3 p4) - (48 : Int32))) rfl ?_
        refine own_bipush X126 at_188 (pc' := 190) rfl (z := (100 : Int32)) rfl ?_
        refine own_imul X126 at_190 (pc' := 191) rfl (z := (((own_v0_137 p1 p2 p3 p4) - (48 : Int32)) * (100 : Int32))) rfl ?_
        refine own_iload X126 at_191 (pc' := 193) rfl (v := (own_v0_146 p1 p2 p3 p4)) rfl ?_
        refine own_bipush X126 at_193 (pc' := 195) rfl (z := (48 : Int32)) rfl ?_
        refine own_isub X126 at_195 (pc' := 196) rfl (z := ((own_v0_146 p1 p2 p3 p4) - (48 : Int32))) rfl ?_
        refine own_bipush X126 at_196 (pc' := 198) rfl (z := (10 : Int32)) rfl ?_
        refine own_imul X126 at_198 (pc' := 199) rfl (z := (((own_v0_146 p1 p2 p3 p4) - (48 : Int32)) * (10 : Int32))) rfl ?_
        refine own_iadd X126 at_199 (pc' := 200) rfl (z := ((((own_v0_137 p1 p2 p3 p4) - (48 : Int32)) * (100 : Int32)) + (((own_v0_146 p1 p2 p3 p4) - (48 : Int32)) * (10 : Int32)))) rfl ?_
        refine own_iload X126 at_200 (pc' := 202) rfl (v := (own_v0_155 p1 p2 p3 p4)) rfl ?_
        refine own_bipush X126 at_202 (pc' := 204) rfl (z := (48 : Int32)) rfl ?_
        refine own_isub X126 at_204 (pc' := 205) rfl (z := ((own_v0_155 p1 p2 p3 p4) - (48 : Int32))) rfl ?_
        refine own_iadd X126 at_205 (pc' := 206) rfl (z := (((((own_v0_137 p1 p2 p3 p4) - (48 : Int32)) * (100 : Int32)) + (((own_v0_146 p1 p2 p3 p4) - (48 : Int32)) * (10 : Int32))) + ((own_v0_155 p1 p2 p3 p4) - (48 : Int32)))) rfl ?_
        refine own_istore X126 at_206 (pc' := 208) rfl (y := (own_v0_206 p1 p2 p3 p4)) rfl (Ls' := #[.val (.int p1), .val (.int p2), .val (.int p3), .val (.int p4), .val (.int (p1 &&& (255 : Int32))), .val (.int (own_v0_13 p2)), .val (.ref b1), .val (.ref b45), .val (.int (own_v0_137 p1 p2 p3 p4)), .val (.int (own_v0_146 p1 p2 p3 p4)), .val (.int (own_v0_155 p1 p2 p3 p4)), .val (.int (own_v0_206 p1 p2 p3 p4))]) rfl ?_
        refine own_iload X126 at_208 (pc' := 210) rfl (v := (own_v0_206 p1 p2 p3 p4)) rfl ?_
        refine own_iload X126 at_210 (pc' := 212) rfl (v := (p1 &&& (255 : Int32))) rfl ?_
        by_cases hc130 : (own_v0_206 p1 p2 p3 p4) = (p1 &&& (255 : Int32))
        · refine own_icmpY X126 at_212 (teq hc130).1 (by decide) (pc' := 217) rfl ?_
          refine own_aload X126 at_217 (pc' := 219) rfl (v := (.ref b45)) rfl rfl ?_
          refine own_aload X126 at_219 (pc' := 221) rfl (v := (.ref b1)) rfl rfl ?_
          refine own_iconst X126 at_221 (pc' := 222) rfl (z := (0 : Int32)) rfl ?_
          refine own_iload X126 at_222 (pc' := 224) rfl (v := (own_v0_13 p2)) rfl ?_
          refine own_callS X126 (argsL := [(.ref b45), (.ref b1), (.int (0 : Int32)), (.int (own_v0_13 p2))]) (S := []) (own_rm3 l Z a0 hw b45 (own_F1_a2 (p1 &&& (255 : Int32)) [(p3.toInt8.toInt32), (own_v0_35 p3), (own_v0_44 p3), (p4.toInt8.toInt32), (own_v0_59 p4), (own_v0_68 p4)] (own_v0_13 p2)) b1 [(p3.toInt8.toInt32), (own_v0_35 p3), (own_v0_44 p3), (p4.toInt8.toInt32), (own_v0_59 p4), (own_v0_68 p4)] (0 : Int32) (own_v0_13 p2) h98 n0 X126.2.2.2.2.2.2.2.2.1 V104 V105 (by decide) (by decide)) (hw _ (List.mem_of_getElem? (i := 10) rfl)) (hw _ (List.mem_of_getElem? (i := 11) rfl)) (hw _ (List.mem_of_getElem? (i := 8) rfl)) (hw _ (List.mem_of_getElem? (i := 12) rfl)) (by decide) (by decide) 0 (by decide) rfl own_pd2 rfl rfl (Nat.le_of_eq rfl) (by decide) (by decide) at_224 (pc' := 227) rfl fun T131 h132 lc133 r134 X135 Q136 => ?_
          obtain ⟨rfl, e137⟩ := Q136
          replace e137 := e137.symm
          subst e137
          show own_E p e below _ (T131.setTop (mkF m 227 #[.val (.int p1), .val (.int p2), .val (.int p3), .val (.int p4), .val (.int (p1 &&& (255 : Int32))), .val (.int (own_v0_13 p2)), .val (.ref b1), .val (.ref b45), .val (.int (own_v0_137 p1 p2 p3 p4)), .val (.int (own_v0_146 p1 p2 p3 p4)), .val (.int (own_v0_155 p1 p2 p3 p4)), .val (.int (own_v0_206 p1 p2 p3 p4))] [(.int (own_v0_224 p1 p2 p3 p4))]))
          by_cases hc138 : (own_v0_224 p1 p2 p3 p4) = (0 : Int32)
          · refine own_ifY X135 at_227 (teq hc138).1 (by decide) (pc' := 299) rfl ?_
            refine own_iconst X135 at_299 (pc' := 300) rfl (z := (0 : Int32)) rfl ?_
            refine own_iret X135 (t := .boolean) (w := (0 : Int32)) hret (by simp) at_300 rfl (by decide) (by decide) ?_
            exact congrArg (fun t => some (Value.int t)) (show (0 : Int32) = own_F0 p1 p2 p3 p4 from (by rw [own_F0, if_neg hc113, if_neg hc121, if_neg hc129, if_pos hc130, if_pos hc138]))
          · refine own_ifN X135 at_227 (feq hc138).1 (pc' := 230) rfl ?_
            refine own_aload X135 at_230 (pc' := 232) rfl (v := (.ref b45)) rfl rfl ?_
            refine own_aload X135 at_232 (pc' := 234) rfl (v := (.ref b1)) rfl rfl ?_
            refine own_iconst X135 at_234 (pc' := 235) rfl (z := (1 : Int32)) rfl ?_
            refine own_iload X135 at_235 (pc' := 237) rfl (v := (own_v0_13 p2)) rfl ?_
            refine own_callS X135 (argsL := [(.ref b45), (.ref b1), (.int (1 : Int32)), (.int (own_v0_13 p2))]) (S := []) (own_rm3 l Z a0 hw b45 (own_F1_a2 (p1 &&& (255 : Int32)) [(p3.toInt8.toInt32), (own_v0_35 p3), (own_v0_44 p3), (p4.toInt8.toInt32), (own_v0_59 p4), (own_v0_68 p4)] (own_v0_13 p2)) b1 [(p3.toInt8.toInt32), (own_v0_35 p3), (own_v0_44 p3), (p4.toInt8.toInt32), (own_v0_59 p4), (own_v0_68 p4)] (1 : Int32) (own_v0_13 p2) h98 n0 X135.2.2.2.2.2.2.2.2.1 V104 V105 (by decide) (by decide)) (hw _ (List.mem_of_getElem? (i := 10) rfl)) (hw _ (List.mem_of_getElem? (i := 11) rfl)) (hw _ (List.mem_of_getElem? (i := 8) rfl)) (hw _ (List.mem_of_getElem? (i := 12) rfl)) (by decide) (by decide) 0 (by decide) rfl own_pd2 rfl rfl (Nat.le_of_eq rfl) (by decide) (by decide) at_237 (pc' := 240) rfl fun T139 h140 lc141 r142 X143 Q144 => ?_
            obtain ⟨rfl, e145⟩ := Q144
            replace e145 := e145.symm
            subst e145
            show own_E p e below _ (T139.setTop (mkF m 240 #[.val (.int p1), .val (.int p2), .val (.int p3), .val (.int p4), .val (.int (p1 &&& (255 : Int32))), .val (.int (own_v0_13 p2)), .val (.ref b1), .val (.ref b45), .val (.int (own_v0_137 p1 p2 p3 p4)), .val (.int (own_v0_146 p1 p2 p3 p4)), .val (.int (own_v0_155 p1 p2 p3 p4)), .val (.int (own_v0_206 p1 p2 p3 p4))] [(.int (own_v0_237 p1 p2 p3 p4))]))
            by_cases hc146 : (own_v0_237 p1 p2 p3 p4) = (0 : Int32)
            · refine own_ifY X143 at_240 (teq hc146).1 (by decide) (pc' := 299) rfl ?_
              refine own_iconst X143 at_299 (pc' := 300) rfl (z := (0 : Int32)) rfl ?_
              refine own_iret X143 (t := .boolean) (w := (0 : Int32)) hret (by simp) at_300 rfl (by decide) (by decide) ?_
              exact congrArg (fun t => some (Value.int t)) (show (0 : Int32) = own_F0 p1 p2 p3 p4 from (by rw [own_F0, if_neg hc113, if_neg hc121, if_neg hc129, if_pos hc130, if_neg hc138, if_pos hc146]))
            · refine own_ifN X143 at_240 (feq hc146).1 (pc' := 243) rfl ?_
              refine own_aload X143 at_243 (pc' := 245) rfl (v := (.ref b45)) rfl rfl ?_
              refine own_aload X143 at_245 (pc' := 247) rfl (v := (.ref b1)) rfl rfl ?_
              refine own_iconst X143 at_247 (pc' := 248) rfl (z := (2 : Int32)) rfl ?_
              refine own_iload X143 at_248 (pc' := 250) rfl (v := (own_v0_13 p2)) rfl ?_
              refine own_callS X143 (argsL := [(.ref b45), (.ref b1), (.int (2 : Int32)), (.int (own_v0_13 p2))]) (S := []) (own_rm3 l Z a0 hw b45 (own_F1_a2 (p1 &&& (255 : Int32)) [(p3.toInt8.toInt32), (own_v0_35 p3), (own_v0_44 p3), (p4.toInt8.toInt32), (own_v0_59 p4), (own_v0_68 p4)] (own_v0_13 p2)) b1 [(p3.toInt8.toInt32), (own_v0_35 p3), (own_v0_44 p3), (p4.toInt8.toInt32), (own_v0_59 p4), (own_v0_68 p4)] (2 : Int32) (own_v0_13 p2) h98 n0 X143.2.2.2.2.2.2.2.2.1 V104 V105 (by decide) (by decide)) (hw _ (List.mem_of_getElem? (i := 10) rfl)) (hw _ (List.mem_of_getElem? (i := 11) rfl)) (hw _ (List.mem_of_getElem? (i := 8) rfl)) (hw _ (List.mem_of_getElem? (i := 12) rfl)) (by decide) (by decide) 0 (by decide) rfl own_pd2 rfl rfl (Nat.le_of_eq rfl) (by decide) (by decide) at_250 (pc' := 253) rfl fun T147 h148 lc149 r150 X151 Q152 => ?_
              obtain ⟨rfl, e153⟩ := Q152
              replace e153 := e153.symm
              subst e153
              show own_E p e below _ (T147.setTop (mkF m 253 #[.val (.int p1), .val (.int p2), .val (.int p3), .val (.int p4), .val (.int (p1 &&& (255 : Int32))), .val (.int (own_v0_13 p2)), .val (.ref b1), .val (.ref b45), .val (.int (own_v0_137 p1 p2 p3 p4)), .val (.int (own_v0_146 p1 p2 p3 p4)), .val (.int (own_v0_155 p1 p2 p3 p4)), .val (.int (own_v0_206 p1 p2 p3 p4))] [(.int (own_v0_250 p1 p2 p3 p4))]))
              by_cases hc154 : (own_v0_250 p1 p2 p3 p4) = (0 : Int32)
              · refine own_ifY X151 at_253 (teq hc154).1 (by decide) (pc' := 299) rfl ?_
                refine own_iconst X151 at_299 (pc' := 300) rfl (z := (0 : Int32)) rfl ?_
                refine own_iret X151 (t := .boolean) (w := (0 : Int32)) hret (by simp) at_300 rfl (by decide) (by decide) ?_
                exact congrArg (fun t => some (Value.int t)) (show (0 : Int32) = own_F0 p1 p2 p3 p4 from (by rw [own_F0, if_neg hc113, if_neg hc121, if_neg hc129, if_pos hc130, if_neg hc138, if_neg hc146, if_pos hc154]))
              · refine own_ifN X151 at_253 (feq hc154).1 (pc' := 256) rfl ?_
                refine own_aload X151 at_256 (pc' := 258) rfl (v := (.ref b45)) rfl rfl ?_
                refine own_aload X151 at_258 (pc' := 260) rfl (v := (.ref b1)) rfl rfl ?_
                refine own_iconst X151 at_260 (pc' := 261) rfl (z := (3 : Int32)) rfl ?_
                refine own_iload X151 at_261 (pc' := 263) rfl (v := (own_v0_13 p2)) rfl ?_
                refine own_callS X151 (argsL := [(.ref b45), (.ref b1), (.int (3 : Int32)), (.int (own_v0_13 p2))]) (S := []) (own_rm3 l Z a0 hw b45 (own_F1_a2 (p1 &&& (255 : Int32)) [(p3.toInt8.toInt32), (own_v0_35 p3), (own_v0_44 p3), (p4.toInt8.toInt32), (own_v0_59 p4), (own_v0_68 p4)] (own_v0_13 p2)) b1 [(p3.toInt8.toInt32), (own_v0_35 p3), (own_v0_44 p3), (p4.toInt8.toInt32), (own_v0_59 p4), (own_v0_68 p4)] (3 : Int32) (own_v0_13 p2) h98 n0 X151.2.2.2.2.2.2.2.2.1 V104 V105 (by decide) (by decide)) (hw _ (List.mem_of_getElem? (i := 10) rfl)) (hw _ (List.mem_of_getElem? (i := 11) rfl)) (hw _ (List.mem_of_getElem? (i := 8) rfl)) (hw _ (List.mem_of_getElem? (i := 12) rfl)) (by decide) (by decide) 0 (by decide) rfl own_pd2 rfl rfl (Nat.le_of_eq rfl) (by decide) (by decide) at_263 (pc' := 266) rfl fun T155 h156 lc157 r158 X159 Q160 => ?_
                obtain ⟨rfl, e161⟩ := Q160
                replace e161 := e161.symm
                subst e161
                show own_E p e below _ (T155.setTop (mkF m 266 #[.val (.int p1), .val (.int p2), .val (.int p3), .val (.int p4), .val (.int (p1 &&& (255 : Int32))), .val (.int (own_v0_13 p2)), .val (.ref b1), .val (.ref b45), .val (.int (own_v0_137 p1 p2 p3 p4)), .val (.int (own_v0_146 p1 p2 p3 p4)), .val (.int (own_v0_155 p1 p2 p3 p4)), .val (.int (own_v0_206 p1 p2 p3 p4))] [(.int (own_v0_263 p1 p2 p3 p4))]))
                by_cases hc162 : (own_v0_263 p1 p2 p3 p4) = (0 : Int32)
                · refine own_ifY X159 at_266 (teq hc162).1 (by decide) (pc' := 299) rfl ?_
                  refine own_iconst X159 at_299 (pc' := 300) rfl (z := (0 : Int32)) rfl ?_
                  refine own_iret X159 (t := .boolean) (w := (0 : Int32)) hret (by simp) at_300 rfl (by decide) (by decide) ?_
                  exact congrArg (fun t => some (Value.int t)) (show (0 : Int32) = own_F0 p1 p2 p3 p4 from (by rw [own_F0, if_neg hc113, if_neg hc121, if_neg hc129, if_pos hc130, if_neg hc138, if_neg hc146, if_neg hc154, if_pos hc162]))
                · refine own_ifN X159 at_266 (feq hc162).1 (pc' := 269) rfl ?_
                  refine own_aload X159 at_269 (pc' := 271) rfl (v := (.ref b45)) rfl rfl ?_
                  refine own_aload X159 at_271 (pc' := 273) rfl (v := (.ref b1)) rfl rfl ?_
                  refine own_iconst X159 at_273 (pc' := 274) rfl (z := (4 : Int32)) rfl ?_
                  refine own_iload X159 at_274 (pc' := 276) rfl (v := (own_v0_13 p2)) rfl ?_
                  refine own_callS X159 (argsL := [(.ref b45), (.ref b1), (.int (4 : Int32)), (.int (own_v0_13 p2))]) (S := []) (own_rm3 l Z a0 hw b45 (own_F1_a2 (p1 &&& (255 : Int32)) [(p3.toInt8.toInt32), (own_v0_35 p3), (own_v0_44 p3), (p4.toInt8.toInt32), (own_v0_59 p4), (own_v0_68 p4)] (own_v0_13 p2)) b1 [(p3.toInt8.toInt32), (own_v0_35 p3), (own_v0_44 p3), (p4.toInt8.toInt32), (own_v0_59 p4), (own_v0_68 p4)] (4 : Int32) (own_v0_13 p2) h98 n0 X159.2.2.2.2.2.2.2.2.1 V104 V105 (by decide) (by decide)) (hw _ (List.mem_of_getElem? (i := 10) rfl)) (hw _ (List.mem_of_getElem? (i := 11) rfl)) (hw _ (List.mem_of_getElem? (i := 8) rfl)) (hw _ (List.mem_of_getElem? (i := 12) rfl)) (by decide) (by decide) 0 (by decide) rfl own_pd2 rfl rfl (Nat.le_of_eq rfl) (by decide) (by decide) at_276 (pc' := 279) rfl fun T163 h164 lc165 r166 X167 Q168 => ?_
                  obtain ⟨rfl, e169⟩ := Q168
                  replace e169 := e169.symm
                  subst e169
                  show own_E p e below _ (T163.setTop (mkF m 279 #[.val (.int p1), .val (.int p2), .val (.int p3), .val (.int p4), .val (.int (p1 &&& (255 : Int32))), .val (.int (own_v0_13 p2)), .val (.ref b1), .val (.ref b45), .val (.int (own_v0_137 p1 p2 p3 p4)), .val (.int (own_v0_146 p1 p2 p3 p4)), .val (.int (own_v0_155 p1 p2 p3 p4)), .val (.int (own_v0_206 p1 p2 p3 p4))] [(.int (own_v0_276 p1 p2 p3 p4))]))
                  by_cases hc170 : (own_v0_276 p1 p2 p3 p4) = (0 : Int32)
                  · refine own_ifY X167 at_279 (teq hc170).1 (by decide) (pc' := 299) rfl ?_
                    refine own_iconst X167 at_299 (pc' := 300) rfl (z := (0 : Int32)) rfl ?_
                    refine own_iret X167 (t := .boolean) (w := (0 : Int32)) hret (by simp) at_300 rfl (by decide) (by decide) ?_
                    exact congrArg (fun t => some (Value.int t)) (show (0 : Int32) = own_F0 p1 p2 p3 p4 from (by rw [own_F0, if_neg hc113, if_neg hc121, if_neg hc129, if_pos hc130, if_neg hc138, if_neg hc146, if_neg hc154, if_neg hc162, if_pos hc170]))
                  · refine own_ifN X167 at_279 (feq hc170).1 (pc' := 282) rfl ?_
                    refine own_aload X167 at_282 (pc' := 284) rfl (v := (.ref b45)) rfl rfl ?_
                    refine own_aload X167 at_284 (pc' := 286) rfl (v := (.ref b1)) rfl rfl ?_
                    refine own_iconst X167 at_286 (pc' := 287) rfl (z := (5 : Int32)) rfl ?_
                    refine own_iload X167 at_287 (pc' := 289) rfl (v := (own_v0_13 p2)) rfl ?_
                    refine own_callS X167 (argsL := [(.ref b45), (.ref b1), (.int (5 : Int32)), (.int (own_v0_13 p2))]) (S := []) (own_rm3 l Z a0 hw b45 (own_F1_a2 (p1 &&& (255 : Int32)) [(p3.toInt8.toInt32), (own_v0_35 p3), (own_v0_44 p3), (p4.toInt8.toInt32), (own_v0_59 p4), (own_v0_68 p4)] (own_v0_13 p2)) b1 [(p3.toInt8.toInt32), (own_v0_35 p3), (own_v0_44 p3), (p4.toInt8.toInt32), (own_v0_59 p4), (own_v0_68 p4)] (5 : Int32) (own_v0_13 p2) h98 n0 X167.2.2.2.2.2.2.2.2.1 V104 V105 (by decide) (by decide)) (hw _ (List.mem_of_getElem? (i := 10) rfl)) (hw _ (List.mem_of_getElem? (i := 11) rfl)) (hw _ (List.mem_of_getElem? (i := 8) rfl)) (hw _ (List.mem_of_getElem? (i := 12) rfl)) (by decide) (by decide) 0 (by decide) rfl own_pd2 rfl rfl (Nat.le_of_eq rfl) (by decide) (by decide) at_289 (pc' := 292) rfl fun T171 h172 lc173 r174 X175 Q176 => ?_
                    obtain ⟨rfl, e177⟩ := Q176
                    replace e177 := e177.symm
                    subst e177
                    show own_E p e below _ (T171.setTop (mkF m 292 #[.val (.int p1), .val (.int p2), .val (.int p3), .val (.int p4), .val (.int (p1 &&& (255 : Int32))), .val (.int (own_v0_13 p2)), .val (.ref b1), .val (.ref b45), .val (.int (own_v0_137 p1 p2 p3 p4)), .val (.int (own_v0_146 p1 p2 p3 p4)), .val (.int (own_v0_155 p1 p2 p3 p4)), .val (.int (own_v0_206 p1 p2 p3 p4))] [(.int (own_v0_289 p1 p2 p3 p4))]))
                    by_cases hc178 : (own_v0_289 p1 p2 p3 p4) = (0 : Int32)
                    · refine own_ifY X175 at_292 (teq hc178).1 (by decide) (pc' := 299) rfl ?_
                      refine own_iconst X175 at_299 (pc' := 300) rfl (z := (0 : Int32)) rfl ?_
                      refine own_iret X175 (t := .boolean) (w := (0 : Int32)) hret (by simp) at_300 rfl (by decide) (by decide) ?_
                      exact congrArg (fun t => some (Value.int t)) (show (0 : Int32) = own_F0 p1 p2 p3 p4 from (by rw [own_F0, if_neg hc113, if_neg hc121, if_neg hc129, if_pos hc130, if_neg hc138, if_neg hc146, if_neg hc154, if_neg hc162, if_neg hc170, if_pos hc178]))
                    · refine own_ifN X175 at_292 (feq hc178).1 (pc' := 295) rfl ?_
                      refine own_iconst X175 at_295 (pc' := 296) rfl (z := (1 : Int32)) rfl ?_
                      refine own_goto X175 at_296 (by decide) (pc' := 300) rfl ?_
                      refine own_iret X175 (t := .boolean) (w := (1 : Int32)) hret (by simp) at_300 rfl (by decide) (by decide) ?_
                      exact congrArg (fun t => some (Value.int t)) (show (1 : Int32) = own_F0 p1 p2 p3 p4 from (by rw [own_F0, if_neg hc113, if_neg hc121, if_neg hc129, if_pos hc130, if_neg hc138, if_neg hc146, if_neg hc154, if_neg hc162, if_neg hc170, if_neg hc178]))
        · refine own_icmpN X126 at_212 (feq hc130).1 (pc' := 215) rfl ?_
          refine own_iconst X126 at_215 (pc' := 216) rfl (z := (0 : Int32)) rfl ?_
          refine own_iret X126 (t := .boolean) (w := (0 : Int32)) hret (by simp) at_216 rfl (by decide) (by decide) ?_
          exact congrArg (fun t => some (Value.int t)) (show (0 : Int32) = own_F0 p1 p2 p3 p4 from (by rw [own_F0, if_neg hc113, if_neg hc121, if_neg hc129, if_neg hc130]))
theorem own_dig {s : Int32} (h0 : 0 ≤ s.toInt) (h1 : s.toInt ≤ 255) : (¬ own_F2 (own_v1_10 s) = 0) ∧ (¬ own_F2 (own_v1_26 s) = 0) ∧ (¬ own_F2 (own_v1_39 s) = 0) ∧ (((own_v1_10 s) - (48 : Int32)) * (100 : Int32)) + (((own_v1_26 s) - (48 : Int32)) * (10 : Int32)) + ((own_v1_39 s) - (48 : Int32)) = s := by
  have e100 : (100 : Int32).toInt = 100 := rfl
  have e10 : (10 : Int32).toInt = 10 := rfl
  have e48 : (48 : Int32).toInt = 48 := rfl
  have e57 : (57 : Int32).toInt = 57 := rfl
  have a1 : ((48 : Int32) + s / 100).toInt = 48 + s.toInt / 100 := own_AI e48 (own_DI rfl e100 h0 (by decide)) (by omega) (by omega)
  have a2 : ((48 : Int32) + s / 10 % 10).toInt = 48 + s.toInt / 10 % 10 := own_AI e48 (own_RI (own_DI rfl e10 h0 (by decide)) e10 (by omega)) (by omega) (by omega)
  have a3 : ((48 : Int32) + s % 10).toInt = 48 + s.toInt % 10 := own_AI e48 (own_RI rfl e10 h0) (by omega) (by omega)
  have b1 : own_v1_10 s = 48 + s / 100 := own_b8 (by omega) (by omega)
  have b2 : own_v1_26 s = 48 + s / 10 % 10 := own_b8 (by omega) (by omega)
  have b3 : own_v1_39 s = 48 + s % 10 := own_b8 (by omega) (by omega)
  rw [b1, b2, b3]
  have F : ∀ d : Int32, 48 ≤ d.toInt → d.toInt ≤ 57 → ¬ own_F2 d = 0 := fun d p q => by
    rw [own_F2, if_neg (by rw [own_lt]; omega), if_neg (by rw [own_lt]; omega)]; decide
  refine ⟨F _ (by omega) (by omega), F _ (by omega) (by omega), F _ (by omega) (by omega), ?_⟩
  rw [own_eq]
  have c1 := own_MI (own_SI a1 e48 (by omega) (by omega)) e100 (by omega) (by omega)
  have c2 := own_MI (own_SI a2 e48 (by omega) (by omega)) e10 (by omega) (by omega)
  have c3 := own_SI a3 e48 (by omega) (by omega)
  rw [own_AI (own_AI c1 c2 (by omega) (by omega)) c3 (by omega) (by omega)]
  omega
theorem own_four {f : Int32} (h0 : 0 ≤ f.toInt) (h1 : f.toInt ≤ 3) : f = 0 ∨ f = 1 ∨ f = 2 ∨ f = 3 := by
  simp only [own_eq, show (0 : Int32).toInt = 0 from rfl, show (1 : Int32).toInt = 1 from rfl, show (2 : Int32).toInt = 2 from rfl, show (3 : Int32).toInt = 3 from rfl]; omega
theorem own_law (x0 x1 x2 x3 x4 x5 s at' : Int32) (hs0 : 0 ≤ s.toInt) (hs1 : s.toInt ≤ 255) (ha : at' = 0 ∨ at' = 1 ∨ at' = 2 ∨ at' = 3) :
    (if (own_F2 (List.getD (own_F1_a2 s [x0, x1, x2, x3, x4, x5] at') (at'.toNatClampNeg) 0)) = (0 : Int32) then (0 : Int32) else (if (own_F2 (List.getD (own_F1_a2 s [x0, x1, x2, x3, x4, x5] at') ((at' + (1 : Int32)).toNatClampNeg) 0)) = (0 : Int32) then (0 : Int32) else (if (own_F2 (List.getD (own_F1_a2 s [x0, x1, x2, x3, x4, x5] at') ((at' + (2 : Int32)).toNatClampNeg) 0)) = (0 : Int32) then (0 : Int32) else (if (((((List.getD (own_F1_a2 s [x0, x1, x2, x3, x4, x5] at') (at'.toNatClampNeg) 0) - (48 : Int32)) * (100 : Int32)) + (((List.getD (own_F1_a2 s [x0, x1, x2, x3, x4, x5] at') ((at' + (1 : Int32)).toNatClampNeg) 0) - (48 : Int32)) * (10 : Int32))) + ((List.getD (own_F1_a2 s [x0, x1, x2, x3, x4, x5] at') ((at' + (2 : Int32)).toNatClampNeg) 0) - (48 : Int32))) = s then (if (own_F3 (own_F1_a2 s [x0, x1, x2, x3, x4, x5] at') [x0, x1, x2, x3, x4, x5] (0 : Int32) at') = (0 : Int32) then (0 : Int32) else (if (own_F3 (own_F1_a2 s [x0, x1, x2, x3, x4, x5] at') [x0, x1, x2, x3, x4, x5] (1 : Int32) at') = (0 : Int32) then (0 : Int32) else (if (own_F3 (own_F1_a2 s [x0, x1, x2, x3, x4, x5] at') [x0, x1, x2, x3, x4, x5] (2 : Int32) at') = (0 : Int32) then (0 : Int32) else (if (own_F3 (own_F1_a2 s [x0, x1, x2, x3, x4, x5] at') [x0, x1, x2, x3, x4, x5] (3 : Int32) at') = (0 : Int32) then (0 : Int32) else (if (own_F3 (own_F1_a2 s [x0, x1, x2, x3, x4, x5] at') [x0, x1, x2, x3, x4, x5] (4 : Int32) at') = (0 : Int32) then (0 : Int32) else (if (own_F3 (own_F1_a2 s [x0, x1, x2, x3, x4, x5] at') [x0, x1, x2, x3, x4, x5] (5 : Int32) at') = (0 : Int32) then (0 : Int32) else (1 : Int32))))))) else (0 : Int32))))) = (1 : Int32) := by
  obtain ⟨d0, d1, d2, dv⟩ := own_dig hs0 hs1
  rcases ha with rfl | rfl | rfl | rfl
  · have hL : own_F1_a2 s [x0, x1, x2, x3, x4, x5] 0 = [own_v1_10 s, own_v1_26 s, own_v1_39 s, x3, x4, x5] := rfl
    have r0 : List.getD [own_v1_10 s, own_v1_26 s, own_v1_39 s, x3, x4, x5] ((0 : Int32).toNatClampNeg) 0 = own_v1_10 s := rfl
    have r1 : List.getD [own_v1_10 s, own_v1_26 s, own_v1_39 s, x3, x4, x5] (((0 : Int32) + 1).toNatClampNeg) 0 = own_v1_26 s := rfl
    have r2 : List.getD [own_v1_10 s, own_v1_26 s, own_v1_39 s, x3, x4, x5] (((0 : Int32) + 2).toNatClampNeg) 0 = own_v1_39 s := rfl
    rw [hL, r0, r1, r2, if_neg d0, if_neg d1, if_neg d2, if_pos dv]
    simp +decide [own_F3, List.getD]
  · have hL : own_F1_a2 s [x0, x1, x2, x3, x4, x5] 1 = [x0, own_v1_10 s, own_v1_26 s, own_v1_39 s, x4, x5] := rfl
    have r0 : List.getD [x0, own_v1_10 s, own_v1_26 s, own_v1_39 s, x4, x5] ((1 : Int32).toNatClampNeg) 0 = own_v1_10 s := rfl
    have r1 : List.getD [x0, own_v1_10 s, own_v1_26 s, own_v1_39 s, x4, x5] (((1 : Int32) + 1).toNatClampNeg) 0 = own_v1_26 s := rfl
    have r2 : List.getD [x0, own_v1_10 s, own_v1_26 s, own_v1_39 s, x4, x5] (((1 : Int32) + 2).toNatClampNeg) 0 = own_v1_39 s := rfl
    rw [hL, r0, r1, r2, if_neg d0, if_neg d1, if_neg d2, if_pos dv]
    simp +decide [own_F3, List.getD]
  · have hL : own_F1_a2 s [x0, x1, x2, x3, x4, x5] 2 = [x0, x1, own_v1_10 s, own_v1_26 s, own_v1_39 s, x5] := rfl
    have r0 : List.getD [x0, x1, own_v1_10 s, own_v1_26 s, own_v1_39 s, x5] ((2 : Int32).toNatClampNeg) 0 = own_v1_10 s := rfl
    have r1 : List.getD [x0, x1, own_v1_10 s, own_v1_26 s, own_v1_39 s, x5] (((2 : Int32) + 1).toNatClampNeg) 0 = own_v1_26 s := rfl
    have r2 : List.getD [x0, x1, own_v1_10 s, own_v1_26 s, own_v1_39 s, x5] (((2 : Int32) + 2).toNatClampNeg) 0 = own_v1_39 s := rfl
    rw [hL, r0, r1, r2, if_neg d0, if_neg d1, if_neg d2, if_pos dv]
    simp +decide [own_F3, List.getD]
  · have hL : own_F1_a2 s [x0, x1, x2, x3, x4, x5] 3 = [x0, x1, x2, own_v1_10 s, own_v1_26 s, own_v1_39 s] := rfl
    have r0 : List.getD [x0, x1, x2, own_v1_10 s, own_v1_26 s, own_v1_39 s] ((3 : Int32).toNatClampNeg) 0 = own_v1_10 s := rfl
    have r1 : List.getD [x0, x1, x2, own_v1_10 s, own_v1_26 s, own_v1_39 s] (((3 : Int32) + 1).toNatClampNeg) 0 = own_v1_26 s := rfl
    have r2 : List.getD [x0, x1, x2, own_v1_10 s, own_v1_26 s, own_v1_39 s] (((3 : Int32) + 2).toNatClampNeg) 0 = own_v1_39 s := rfl
    rw [hL, r0, r1, r2, if_neg d0, if_neg d1, if_neg d2, if_pos dv]
    simp +decide [own_F3, List.getD]
theorem own_plain (p1 p2 p3 p4 : Int32) : own_F0 p1 p2 p3 p4 = 1 := by
  have a1 : (p1 &&& 255).toInt = p1.toInt % 256 := own_mk (k := 8) (by decide) (by decide)
  exact own_law _ _ _ _ _ _ (p1 &&& 255) (own_v0_13 p2) (by omega) (by omega) (own_four (own_m4 p2).1 (own_m4 p2).2)
set_option maxRecDepth 65536 in
set_option maxHeartbeats 40000000 in
theorem own_comes {Post : Tables → Env → Array Value → State → Outcome → State → Prop} (hpost : ∀ tb e args s v u, (limb_1_1.after args s (.returned v) u = true ∧ limb_1_2.after args s (.returned v) u = true) → FrameEnd s (.returned v) u (Jvm.fieldLocs frame_1_writes args s ++ Jvm.arrayLocs frame_1_arrays args s ++ Jvm.staticLocs frame_1_statics s) 16 128 → Post tb e args s (.returned v) u) :
    ArmFor flags0 classFile x code maxLocals ret World_1 tables_1 room_1 Calls_1 rest_1 Pre_1 Post := by
  intro l hfl _ _ p e ha hc hk s m args below hf hA hF happ hP
  obtain ⟨hcalls, hrest, hpre⟩ := hP
  obtain ⟨-, -, -, hnamed, -, -, -, hat⟩ := (Spec.applies_iff hf).mp happ
  obtain ⟨hg, hn⟩ := and_e (Cond.before_iff.mp (show (Jvm.Cond.and given_1 narrow_1).before args s = true from hpre))
  obtain ⟨g1, g2⟩ := and_e hg
  obtain ⟨g3, g4⟩ := and_e g2
  obtain ⟨g5, g6⟩ := and_e g4
  obtain ⟨g7, g8⟩ := and_e g6
  obtain ⟨w0, w1, w2, w3, rfl⟩ : ∃ w0 w1 w2 w3 : Value, args = #[w0, w1, w2, w3] := by
    have hs : args.size = 4 := by simpa [Cond.value, given_1] using g1
    obtain ⟨L⟩ := args
    match L, hs with
    | [w0, w1, w2, w3], _ => exact ⟨w0, w1, w2, w3, rfl⟩
  have hw := fun d (hd : d ∈ tables_1) => atoms_spec (ws := Jvm.Cond.code x code maxLocals ret :: tables_1) hat d (List.mem_cons_of_mem _ hd)
  obtain ⟨i0, ei0⟩ := is_v g3
  obtain rfl : w0 = (.int i0) := Option.some.inj ei0
  obtain ⟨i1, ei1⟩ := is_v g5
  obtain rfl : w1 = (.int i1) := Option.some.inj ei1
  obtain ⟨i2, ei2⟩ := is_v g7
  obtain rfl : w2 = (.int i2) := Option.some.inj ei2
  obtain ⟨i3, ei3⟩ := is_v g8
  obtain rfl : w3 = (.int i3) := Option.some.inj ei3
  obtain ⟨n, o, h1, h2, h3, v, L, rfl, ⟨hq1, N, _⟩, hq⟩ := own_rm0 l s _ hw i0 i1 i2 i3 s.heap s.heap.size (Nat.le_refl _)  tables_1 p e ha hc hk s m _ below hf ((Spec.applies_iff_loose hf).mp happ).1 ⟨rfl, State.Warmed39.refl s, rfl⟩ trivial
  obtain rfl : v = some (.int 1) := by rw [hq1, own_plain i0 i1 i2 i3]
  exact ⟨n, _, h1, h2, h3, hpost _ _ _ _ _ _ ⟨Cond.after_iff.mpr rfl, Cond.after_iff.mpr (eq_i res_at (Term.int_eval (1)) rfl)⟩ ⟨hq.1, hq.2.1, (hq.2.2.sift fun y hy => Or.inr (N y hy)).mono (by decide) (by decide)⟩⟩
theorem main_1_1 : Claimed_1_1 := own_comes fun _ _ _ _ _ _ h hF => ⟨h.1, hF⟩
theorem main_1_2 : Claimed_1_2 := own_comes fun _ _ _ _ _ _ h hF => ⟨h.2, hF⟩
end Jvm.Pilot.@@N@@
namespace Jvm.Pilot.@@N@@
open Jvm Jvm.ClassFile Sem Op Lib Jvm.Free Jvm.Stand Jvm.Pilot.@@N@@.Jvm.D
/-! MADE BY PROGRAM (witnessworld.py) out of the Statement's table words and the real class files: 9 classes; the members and pool entries that the words name. The judged class is class 1, her method 3. -/
namespace start1
open Jvm.ClassFile
def u (s : String) : CpInfo := .utf8 (stringToUtf16 s)
/-- a pool by its gaps: so many unusable entries, then the entry; so many at the end -/
def gap : Nat → List CpInfo → List CpInfo
  | 0, r => r
  | n + 1, r => .unusable :: gap n r
def poolList (es : List (Nat × CpInfo)) (last : Nat) : List CpInfo := es.foldr (fun e r => gap e.1 (e.2 :: r)) (gap last [])
def pool (es : List (Nat × CpInfo)) (last : Nat) : Array CpInfo := ⟨poolList es last⟩
def fileOf (pool : Array CpInfo) (this : Nat) (attrs : Array Attribute := #[]) (ms : Array MethodInfo := #[]) (fl : Nat := 33) (sup : Nat := 0) (ifs : Array Nat := #[]) (fds : Array FieldInfo := #[]) : ClassFile where
  minorVersion := 0
  majorVersion := 65
  constantPool := pool
  accessFlags := fl
  thisClass := this
  superClass := sup
  interfaces := ifs
  fields := fds
  methods := ms
  attributes := attrs
def plain (name : String) (sup : Option ClassId) : Class where
  name := name
  kind := .ordinary
  loader := none
  accessFlags := 33
  super := sup
  interfaces := #[]
  cf := none
  fields := #[]
  methods := #[]
  instanceTypes := #[]
  staticTypes := #[]
  resolved := #[]
  callSites := []
  init := .initialized
  statics := none
  mirror := none

def pool0 : Array CpInfo := pool [(5, u "<init>"), (0, u "()V"), (1, .class_ 10), (1, u "java/lang/Object")] 113

def k0m0 : Method := { name := "<init>", desc := "()V", sig := { parameters := [], returnType := none }, accessFlags := 1, code := none }
/-- java/lang/Object -/
def k0 : Class := { plain "java/lang/Object" none with
  accessFlags := 33
  interfaces := #[]
  cf := some (fileOf pool0 8 #[] #[{ accessFlags := 1, nameIndex := 5, descriptorIndex := 6, attributes := #[] }] 33 0 #[] #[])
  fields := #[]
  methods := #[k0m0]
  instanceTypes := #[]
  staticTypes := #[]
  resolved := Array.replicate 124 none
  statics := none }

def pool1 : Array CpInfo := pool [(2, .class_ 4), (1, u "java/lang/Object"), (0, u "<init>"), (0, u "()V"), (0, .integer 2147483647), (0, .methodref 9 10), (0, .class_ 11), (0, .nameAndType 12 13), (0, u "com/example/orderflot/orderflot/fix/CheckSum"), (0, u "write"), (0, u "(I[BI)V"), (0, .methodref 15 16), (0, .class_ 17), (0, .nameAndType 18 19), (0, u "com/example/orderflot/orderflot/fix/CheckSumWritePinLaw"), (0, u "isDigit"), (0, u "(B)Z"), (0, .methodref 15 21), (0, .nameAndType 22 23), (0, u "untouchedOutside"), (0, u "([B[BII)Z"), (3, u "law"), (0, u "(IIII)Z")] 4

def k1m0 : Method := { name := "<init>", desc := "()V", sig := { parameters := [], returnType := none }, accessFlags := 1, code := none }
def k1c1 : Code := { maxStack := 2, maxLocals := 1, code := method_2_code, exceptionTable := #[], attributes := #[] }
def k1m1 : Method := { name := "isDigit", desc := "(B)Z", sig := { parameters := [.byte], returnType := some .boolean }, accessFlags := 10, code := some k1c1 }
def k1c2 : Code := { maxStack := 3, maxLocals := 4, code := method_3_code, exceptionTable := #[], attributes := #[] }
def k1m2 : Method := { name := "untouchedOutside", desc := "([B[BII)Z", sig := { parameters := [(.array .byte), (.array .byte), .int, .int], returnType := some .boolean }, accessFlags := 10, code := some k1c2 }
def k1c3 : Code := { maxStack := 4, maxLocals := 12, code := code, exceptionTable := #[], attributes := #[] }
def k1m3 : Method := { name := "law", desc := "(IIII)Z", sig := { parameters := [.int, .int, .int, .int], returnType := some .boolean }, accessFlags := 9, code := some k1c3 }
/-- com/example/orderflot/orderflot/fix/CheckSumWritePinLaw -/
def k1 : Class := { plain "com/example/orderflot/orderflot/fix/CheckSumWritePinLaw" (some 0) with
  accessFlags := 49
  interfaces := #[]
  cf := some (fileOf pool1 15 #[] #[{ accessFlags := 1, nameIndex := 5, descriptorIndex := 6, attributes := #[] }, { accessFlags := 10, nameIndex := 18, descriptorIndex := 19, attributes := #[] }, { accessFlags := 10, nameIndex := 22, descriptorIndex := 23, attributes := #[] }, { accessFlags := 9, nameIndex := 27, descriptorIndex := 28, attributes := #[] }] 49 2 #[] #[])
  fields := #[]
  methods := #[k1m0, k1m1, k1m2, k1m3]
  instanceTypes := #[]
  staticTypes := #[]
  resolved := Array.replicate 33 none
  statics := none }

def pool2 : Array CpInfo := pool [(2, .class_ 4), (1, u "java/lang/Object"), (0, u "<init>"), (0, u "()V"), (1, .class_ 10), (1, u "com/example/orderflot/orderflot/fix/CheckSum"), (0, u "write"), (0, u "(I[BI)V")] 20

def k2m0 : Method := { name := "<init>", desc := "()V", sig := { parameters := [], returnType := none }, accessFlags := 2, code := none }
def k2c1 : Code := { maxStack := 5, maxLocals := 3, code := prog_16_method_4_code, exceptionTable := #[], attributes := #[] }
def k2m1 : Method := { name := "write", desc := "(I[BI)V", sig := { parameters := [.int, (.array .byte), .int], returnType := none }, accessFlags := 8, code := some k2c1 }
/-- com/example/orderflot/orderflot/fix/CheckSum -/
def k2 : Class := { plain "com/example/orderflot/orderflot/fix/CheckSum" (some 0) with
  accessFlags := 32
  interfaces := #[]
  cf := some (fileOf pool2 8 #[] #[{ accessFlags := 2, nameIndex := 5, descriptorIndex := 6, attributes := #[] }, { accessFlags := 8, nameIndex := 11, descriptorIndex := 12, attributes := #[] }] 32 2 #[] #[])
  fields := #[]
  methods := #[k2m0, k2m1]
  instanceTypes := #[]
  staticTypes := #[]
  resolved := Array.replicate 33 none
  statics := none }

def pool3 : Array CpInfo := pool [(1, u "java/lang/Cloneable"), (0, .class_ 1), (0, u "java/lang/Object"), (0, .class_ 3)] 3

/-- java/lang/Cloneable -/
def k3 : Class := { plain "java/lang/Cloneable" (some 0) with
  accessFlags := 1537
  interfaces := #[]
  cf := some (fileOf pool3 2 #[] #[] 1537 4 #[] #[])
  fields := #[]
  methods := #[]
  instanceTypes := #[]
  staticTypes := #[]
  resolved := Array.replicate 8 none
  statics := none }

def pool4 : Array CpInfo := pool [(1, u "java/io/Serializable"), (0, .class_ 1), (0, u "java/lang/Object"), (0, .class_ 3)] 3

/-- java/io/Serializable -/
def k4 : Class := { plain "java/io/Serializable" (some 0) with
  accessFlags := 1537
  interfaces := #[]
  cf := some (fileOf pool4 2 #[] #[] 1537 4 #[] #[])
  fields := #[]
  methods := #[]
  instanceTypes := #[]
  staticTypes := #[]
  resolved := Array.replicate 8 none
  statics := none }

/-- the primitive byte -/
def k5 : Class := { plain "byte" none with kind := .primitive 'B', accessFlags := 0x411 }
/-- [B -/
def k6 : Class := { plain "[B" (some 0) with kind := .array 5 .byte, interfaces := #[3, 4], accessFlags := 1041 }

/-- the primitive int -/
def k7 : Class := { plain "int" none with kind := .primitive 'I', accessFlags := 0x411 }
/-- [I -/
def k8 : Class := { plain "[I" (some 0) with kind := .array 7 .int, interfaces := #[3, 4], accessFlags := 1041 }

def heap : Heap := #[]
def classes : Array Class := #[k0, k1, k2, k3, k4, k5, k6, k7, k8]
def interned : List (Array UInt16 × Addr) := []
def slotsUsed : Nat := 0
def theMethod : MethodId := ⟨1, 3⟩
def args0 : Array Value := #[.int 5, .int 77, .int 5, .int 6]
def aboutOver (below : List Frame) : State where
  vm := { classes := classes, interned := interned.toArray }
  heap := heap
  slotsUsed := slotsUsed
  threads := #[{ frames := .invoking theMethod args0 :: below }]
def below0 : List Frame := [.native { method := ⟨0, 0⟩, args := #[] }]
def about1 : State := aboutOver below0
def p0 : Program := .bare "" "" ""
def e0 : Env := launch0.env 0 0 0
theorem w_frames : about1.frames = Frame.invoking theMethod args0 :: below0 := rfl
set_option maxRecDepth 65536 in
theorem w_args : argsFit about1.vm theMethod args0 = true := by decide +kernel
set_option maxRecDepth 65536 in
theorem w_heap : heapFits about1 = true := by decide +kernel
set_option maxRecDepth 65536 in
theorem w_runnable : about1.curStatus? = some .runnable := by decide +kernel
set_option maxRecDepth 65536 in
theorem w_alone : about1.alone = true := by decide +kernel
set_option maxRecDepth 65536 in
theorem w_named : about1.methodNamed? x = some theMethod := by decide +kernel
set_option maxRecDepth 65536 in
theorem w_hears : about1.hears theMethod below0 = true := by decide +kernel
set_option maxRecDepth 65536 in
theorem w_ripe : about1.ripe theMethod args0 below0 = true := by decide +kernel
theorem w_running : about1.status = .running := rfl
set_option maxRecDepth 65536 in
theorem w_room : about1.hasRoom e0.platform room_1 = true :=
  launch0.hasRoom_least _ room_1 (by decide +kernel) (by decide +kernel) (by decide +kernel) (by decide +kernel) (by decide +kernel) (by decide +kernel)
theorem allAtoms_all (ts : List Jvm.Cond) (a : Array Jvm.Value) (st : Jvm.State) : (allAtoms ts).before a st = ts.all (fun c => c.before a st) := by
  induction ts with
  | nil => rfl
  | cons c t ih =>
    show (Jvm.Cond.and c (allAtoms t)).before a st = _
    rw [Jvm.Cond.before_and, ih, List.all_cons]
def words1 : List Jvm.Cond := Jvm.Cond.code x code maxLocals ret :: tables_1
/-- a 'code' word, met by the world's own term for the bytes: nothing is compared byte by byte -/
theorem code_word {y : MethodName} {bytes : ByteArray} {mx : Nat} {rt : Option FieldType} {a : Array Value} {s : State} {m : MethodId} {meth : Method} {c : Code} (h1 : s.methodNamed? y = some m) (h2 : s.vm.method? m = some meth) (h3 : meth.code = some c) (h4 : c.code = bytes)
    (h5 : (c.maxLocals == mx && c.exceptionTable.isEmpty && decide (c.maxStack ≤ mostOperands) && decide (meth.sig.returnType = rt) && !meth.locks && decide (parseMethodDescriptor y.desc = some meth.sig)) = true) : (Jvm.Cond.code y bytes mx rt).before a s = true := by
  simp only [Bool.and_eq_true, beq_iff_eq, Bool.not_eq_true', decide_eq_true_eq] at h5
  obtain ⟨⟨⟨⟨⟨g1, g2⟩, g3⟩, g4⟩, g5⟩, g6⟩ := h5
  simp [Cond.before, Cond.holds, Cond.value, h1, h2, h3, h4, g1, g2, g3, g4, g5, g6]
def isCode : Jvm.Cond → Bool
  | .code _ _ _ _ => true
  | _ => false
theorem all_split {L : List Jvm.Cond} {P : Jvm.Cond → Bool} (h1 : L.all (fun c => isCode c || P c) = true) (h2 : ∀ c ∈ L.filter isCode, P c = true) : L.all P = true := by
  refine List.all_eq_true.mpr fun c hc => ?_
  have h := List.all_eq_true.mp h1 c hc
  rcases Bool.eq_false_or_eq_true (isCode c) with hi | hi
  · exact h2 c (List.mem_filter.mpr ⟨hc, hi⟩)
  · simpa [hi] using h
set_option maxRecDepth 65536 in
theorem w_c0 : (Jvm.Cond.code x code maxLocals ret).before args0 about1 = true := code_word (m := ⟨1, 3⟩) (meth := k1m3) (c := k1c3) (by decide +kernel) rfl rfl rfl (by decide +kernel)
set_option maxRecDepth 65536 in
theorem w_c1 : (Jvm.Cond.code ({ cls := "com/example/orderflot/orderflot/fix/CheckSum", name := "write", desc := "(I[BI)V" } : Jvm.MethodName) prog_16_method_4_code (3 : Nat) (Option.none : Option Jvm.ClassFile.FieldType)).before args0 about1 = true := code_word (m := ⟨2, 1⟩) (meth := k2m1) (c := k2c1) (by decide +kernel) rfl rfl rfl (by decide +kernel)
set_option maxRecDepth 65536 in
theorem w_c2 : (Jvm.Cond.code ({ cls := "com/example/orderflot/orderflot/fix/CheckSumWritePinLaw", name := "isDigit", desc := "(B)Z" } : Jvm.MethodName) method_2_code (1 : Nat) (Option.some Jvm.ClassFile.FieldType.boolean)).before args0 about1 = true := code_word (m := ⟨1, 1⟩) (meth := k1m1) (c := k1c1) (by decide +kernel) rfl rfl rfl (by decide +kernel)
set_option maxRecDepth 65536 in
theorem w_c3 : (Jvm.Cond.code ({ cls := "com/example/orderflot/orderflot/fix/CheckSumWritePinLaw", name := "untouchedOutside", desc := "([B[BII)Z" } : Jvm.MethodName) method_3_code (4 : Nat) (Option.some Jvm.ClassFile.FieldType.boolean)).before args0 about1 = true := code_word (m := ⟨1, 2⟩) (meth := k1m2) (c := k1c2) (by decide +kernel) rfl rfl rfl (by decide +kernel)
def codes1 : List Jvm.Cond := [Jvm.Cond.code x code maxLocals ret, Jvm.Cond.code ({ cls := "com/example/orderflot/orderflot/fix/CheckSum", name := "write", desc := "(I[BI)V" } : Jvm.MethodName) prog_16_method_4_code (3 : Nat) (Option.none : Option Jvm.ClassFile.FieldType), Jvm.Cond.code ({ cls := "com/example/orderflot/orderflot/fix/CheckSumWritePinLaw", name := "isDigit", desc := "(B)Z" } : Jvm.MethodName) method_2_code (1 : Nat) (Option.some Jvm.ClassFile.FieldType.boolean), Jvm.Cond.code ({ cls := "com/example/orderflot/orderflot/fix/CheckSumWritePinLaw", name := "untouchedOutside", desc := "([B[BII)Z" } : Jvm.MethodName) method_3_code (4 : Nat) (Option.some Jvm.ClassFile.FieldType.boolean)]
set_option maxRecDepth 65536 in
theorem codes_eq : words1.filter isCode = codes1 := rfl
theorem w_codes : ∀ c ∈ words1.filter isCode, c.before args0 about1 = true := by
  rw [codes_eq]
  intro c hc
  simp only [codes1, List.mem_cons, List.not_mem_nil, or_false] at hc
  rcases hc with rfl | rfl | rfl | rfl
  · exact w_c0
  · exact w_c1
  · exact w_c2
  · exact w_c3
set_option maxRecDepth 65536 in
theorem w_t1 : words1.all (fun c => isCode c || c.before args0 about1) = true := by decide +kernel
theorem w_tables : (allAtoms (Jvm.Cond.code x code maxLocals ret :: tables_1)).before args0 about1 = true := by
  rw [allAtoms_all]
  show words1.all (fun c => c.before args0 about1) = true
  refine all_split ?_ w_codes
  rw [w_t1]
set_option maxRecDepth 65536 in
theorem w_case : (Jvm.Cond.and given_1 narrow_1).before args0 about1 = true := by decide +kernel
theorem w_applies : (headSpec (Jvm.Cond.code x code maxLocals ret :: tables_1) room_1).applies x e0.platform about1 = true :=
  (Spec.applies_iff w_frames).mpr ⟨w_running, w_runnable, w_alone, w_named, w_hears, w_ripe, w_room, w_tables⟩
theorem atStart : AtStart classFile x code maxLocals ret World_1 tables_1 room_1 Calls_1 rest_1 Pre_1 launch0 p0 e0 about1 theMethod args0 below0 :=
  ⟨lists_1, trivial, launch0.admits_env _ _ _, launch0.least_env, fairChoices_fair.cas, fairChoices_fair.clock, w_frames, w_args, w_heap, w_applies, trivial, trivial, w_case⟩
end start1
theorem witness_1 : WitnessClaimed_1 := ⟨start1.p0, start1.e0, start1.about1, start1.theMethod, start1.args0, start1.below0, start1.atStart⟩
end Jvm.Pilot.@@N@@

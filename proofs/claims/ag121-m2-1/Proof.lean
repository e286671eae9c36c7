import JvmDerived
import JvmDerived.Pilot.@@N@@Statement
import JvmDerived.Pilot.@@N@@Code
set_option linter.unusedVariables false
set_option linter.unusedSimpArgs false
namespace Jvm.Pilot.@@N@@
open Jvm Jvm.ClassFile Sem Op Lib Jvm.Free Jvm.Stand Jvm.LawKit Jvm.RoadKit Bundle Jvm.Pilot.@@N@@.Jvm.D
/-! OWN KIT: the walk's steps in one form: 'own_A' where the run stands, 'own_E' that it ends as G says. -/
def own_E (p : Program) (e : Env) (below : List Frame) (G : Outcome → State → Prop) (A : State) : Prop := ∃ s₂ o, Steps p.tables e below A s₂ ∧ s₂.status = .running ∧ Ended s₂ below o ∧ G o s₂
def own_A (l : Launch) (Z : State) (own : String) (cb : ByteArray) (ml n0 : Nat) (p : Program) (e : Env) (R : Room) (s : State) (m : MethodId) (args : Array Value) (below : List Frame) (meth : Method) (c : Code) (T : State) (h : Heap) (locs : List Loc) (cells slots : Nat) : Prop :=
  Stand p l e R s m args below meth c T locs cells slots ∧ p.tables.exec = Jvm.exec ∧ Z.Warmed39 s.vm ∧ c.code = cb ∧ c.maxLocals = ml ∧ s.vm.findClass own = some m.cls ∧ T.heap = h ∧ Fr n0 locs ∧ n0 ≤ h.size ∧ meth.locks = false
def own_G (R : Room) (s : State) (n0 : Nat) (Q : Option Value → Heap → Prop) (o : Outcome) (U : State) : Prop := ∃ v L, o = .returned v ∧ (Q v U.heap ∧ Fr n0 L ∧ n0 ≤ U.heap.size) ∧ FrameEnd s o U L R.cells R.slots
def own_Con (l : Launch) (Z : State) (y : MethodName) (cb : ByteArray) (ml : Nat) (ret : Option FieldType) (rm : Room) (as' : Array Value) (h0 : Heap) (n0 : Nat) (Q : Option Value → Heap → Prop) : Prop :=
  ∀ ws, MetFree l y (head1 (Jvm.Cond.code y cb ml ret :: ws) rm) (fun a U => a = as' ∧ Z.Warmed39 U.vm ∧ U.heap = h0) (fun _ _ _ _ _ => True) (fun _ U o U' => ∃ v L, o = .returned v ∧ (Q v U'.heap ∧ Fr n0 L ∧ n0 ≤ U'.heap.size) ∧ FrameEnd U o U' L rm.cells rm.slots)
theorem own_b255 (x : Int32) : x &&& 255 = x.toInt8.toInt32 &&& 255 := by
  apply Int32.toBitVec_inj.mp
  rw [Int32.toBitVec_and, Int32.toBitVec_and]
  show x.toBitVec &&& (BitVec.ofNat 32 255) = (x.toBitVec.signExtend 8).signExtend 32 &&& (BitVec.ofNat 32 255)
  apply BitVec.eq_of_getLsbD_eq
  intro i hi
  rw [BitVec.getLsbD_and, BitVec.getLsbD_and, BitVec.getLsbD_signExtend, BitVec.getLsbD_signExtend]
  by_cases h : i < 8
  · simp [h, hi]
  · have : ((BitVec.ofNat 32 255)).getLsbD i = false := by
      have h2 : 8 ≤ i := by omega
      have : ((BitVec.ofNat 32 255)).getLsbD i = Nat.testBit 255 i := by simp [BitVec.getLsbD]
      rw [this]; exact Nat.testBit_lt_two_pow (Nat.lt_of_lt_of_le (by decide : 255 < 2^8) (Nat.pow_le_pow_right (by decide) h2))
    simp [this]
theorem own_lremE (x y : Int64) : x - (x / y) * y = x % y := by
  apply Int64.toInt_inj.mp
  have h1 := Int64.le_toInt (x % y)
  have h2 := Int64.toInt_lt (x % y)
  rw [Int64.toInt_sub, Int64.toInt_mul, Int64.toInt_div, Int.bmod_mul_bmod, Int.sub_bmod_bmod, Int.mul_comm (x.toInt.tdiv y.toInt), ← Int.tmod_def, ← Int64.toInt_mod]
  exact Int.bmod_eq_of_le_mul_two (by omega) (by omega)
theorem own_addc (x a b c : Int32) (h : a + b = c) : (x + a) + b = x + c := by rw [Int32.add_assoc, h]
theorem own_nb (t : Int32) : nar .byte (t.toInt8.toInt32) = t.toInt8.toInt32 := by
  show (t.toInt8.toInt32).toInt8.toInt32 = t.toInt8.toInt32
  simp
section OwnKit
variable {l : Launch} {Z : State} {a0 : Array Value} {own : String} {cb : ByteArray} {ml n0 : Nat} {p : Program} {e : Env} {R : Room} {s : State} {m : MethodId} {args : Array Value} {below : List Frame} {meth : Method} {c : Code} {T : State} {h h' : Heap} {locs : List Loc} {cells slots : Nat} {G : Outcome → State → Prop} {pc pc' : Nat} {Ls Ls' : Array Slot} {S : List Value}
theorem own_go {A B : State} (h : ∀ t, Steps p.tables e below B t → Steps p.tables e below A t) (k : own_E p e below G B) : own_E p e below G A := by
  obtain ⟨s₂, o, h1, r⟩ := k; exact ⟨s₂, o, h _ h1, r⟩
theorem own_enter {y : MethodName} {ret : Option FieldType} {as' : Array Value} {h0 : Heap} {Q : Option Value → Heap → Prop} (hpl : plainFor y = true) (hsz : n0 ≤ h0.size) (hef : ∀ m, entryFrame m as' ml = mkF m 0 Ls [])
    (k : ∀ p e s m below meth c T, own_A l Z y.cls cb ml n0 p e R s m as' below meth c T h0 [] 0 0 → meth.sig.returnType = ret → meth.name = y.name → own_E p e below (own_G R s n0 Q) (T.setTop (mkF m 0 Ls []))) : own_Con l Z y cb ml ret R as' h0 n0 Q := by
  intro ws
  refine MetFree.of_bodySF hpl hisR ?_
  intro p e s m args below meth c s₁ Bd hml0 hP hK
  obtain ⟨rfl, hZ, hh⟩ := hP
  have e0 : s₁.heap = h0 := by rw [← hh, Bd.state]; rfl
  have K := k p e s m below meth c s₁ ⟨Stand.of_body Bd, Bd.exec, hZ, Bd.bytes, hml0, findClass_of_methodNamed Bd.named, e0, Fr.nil n0, hsz, Bd.notSynchronized⟩ Bd.returns (name_of_methodNamed Bd.named Bd.method).1
  obtain ⟨s₂, o, h1, h2, h3, h4⟩ := K
  exact ⟨s₂, o, castTop (hef m) h1, h2, h3, h4⟩
theorem own_iret (X : own_A l Z own cb ml n0 p e R s m args below meth c T h locs cells slots) {t : FieldType} {z w : Int32} {Q : Option Value → Heap → Prop} (hr : meth.sig.returnType = some t) (ht : t = .int ∨ t = .boolean ∨ t = .byte ∨ t = .char ∨ t = .short) (hd : decode cb pc = .ok (.ireturn, 1)) (hz : nar t z = w) (hc : cells ≤ R.cells) (hs : slots ≤ R.slots) (hQ : Q (some (.int w)) h) :
    own_E p e below (own_G R s n0 Q) (T.setTop (mkF m pc Ls (.int z :: S))) := by
  obtain ⟨X, hx, hZ, hby, hml, hown, rfl, N, hsz, hlk⟩ := X
  subst hz
  obtain ⟨fs, hl, hrun, hended, hW, hsame⟩ := X.leave (v := some (.int (nar t z))) (fun q => by rw [hr] at q; cases q) hlk
  refine ⟨_, _, ?_, hrun, hended, _, locs, rfl, ⟨hQ, N, hsz⟩, ⟨_, rfl⟩, hW, hsame.mono hc hs⟩
  rcases ht with rfl | ht
  · exact retOut X hx hr rfl (Or.inl ⟨rfl, Or.inl rfl, z, rfl⟩) (hb hby hd) hl
  · exact retN X hx hr ht (hb hby hd) hl
theorem own_lret (X : own_A l Z own cb ml n0 p e R s m args below meth c T h locs cells slots) {z : Int64} {Q : Option Value → Heap → Prop} (hr : meth.sig.returnType = some .long) (hd : decode cb pc = .ok (.lreturn, 1)) (hc : cells ≤ R.cells) (hs : slots ≤ R.slots) (hQ : Q (some (.long z)) h) :
    own_E p e below (own_G R s n0 Q) (T.setTop (mkF m pc Ls (.long z :: S))) := by
  obtain ⟨X, hx, hZ, hby, hml, hown, rfl, N, hsz, hlk⟩ := X
  obtain ⟨fs, hl, hrun, hended, hW, hsame⟩ := X.leave (v := some (.long z)) (fun q => by rw [hr] at q; cases q) hlk
  exact ⟨_, _, retOut X hx hr rfl (Or.inr (Or.inl ⟨rfl, rfl, z, rfl⟩)) (hb hby hd) hl, hrun, hended, _, locs, rfl, ⟨hQ, N, hsz⟩, ⟨_, rfl⟩, hW, hsame.mono hc hs⟩
theorem own_aret (X : own_A l Z own cb ml n0 p e R s m args below meth c T h locs cells slots) {t : FieldType} {v : Value} {Q : Option Value → Heap → Prop} (hr : meth.sig.returnType = some t) (ht : t.isReference = true) (hv : v.isRef = true) (hn : narrow t v = v) (hd : decode cb pc = .ok (.areturn, 1)) (hc : cells ≤ R.cells) (hs : slots ≤ R.slots) (hQ : Q (some v) h) :
    own_E p e below (own_G R s n0 Q) (T.setTop (mkF m pc Ls (v :: S))) := by
  obtain ⟨X, hx, hZ, hby, hml, hown, rfl, N, hsz, hlk⟩ := X
  obtain ⟨fs, hl, hrun, hended, hW, hsame⟩ := X.leave (v := some v) (fun q => by rw [hr] at q; cases q) hlk
  exact ⟨_, _, retOut X hx hr hn (Or.inr (Or.inr (Or.inr (Or.inr ⟨rfl, ht, hv⟩)))) (hb hby hd) hl, hrun, hended, _, locs, rfl, ⟨hQ, N, hsz⟩, ⟨_, rfl⟩, hW, hsame.mono hc hs⟩
theorem own_vret (X : own_A l Z own cb ml n0 p e R s m args below meth c T h locs cells slots) {Q : Option Value → Heap → Prop} (hr : meth.sig.returnType = none) (hd : decode cb pc = .ok (.return_, 1)) (hc : cells ≤ R.cells) (hs : slots ≤ R.slots) (hQ : Q none h) :
    own_E p e below (own_G R s n0 Q) (T.setTop (mkF m pc Ls [])) := by
  obtain ⟨X, hx, hZ, hby, hml, hown, rfl, N, hsz, hlk⟩ := X
  obtain ⟨fs, hl, hrun, hended, hW, hsame⟩ := X.leave (v := none) (fun _ => rfl) hlk
  exact ⟨_, _, X.returnOut hx hr (hb hby hd) hl, hrun, hended, _, locs, rfl, ⟨hQ, N, hsz⟩, ⟨_, rfl⟩, hW, hsame.mono hc hs⟩
theorem own_iloadN (X : own_A l Z own cb ml n0 p e R s m args below meth c T h locs cells slots) {i : Fin 4} {v : Int32} (hd : decode cb pc = .ok (.iload_n i, 1)) (hp : pc + 1 = pc') (hl : Ls[i.val]? = some (.val (.int v))) (k : own_E p e below G (T.setTop (mkF m pc' Ls (.int v :: S)))) : own_E p e below G (T.setTop (mkF m pc Ls S)) := by
  subst hp; exact own_go (fun _ => XS.iloadN X.1.here X.2.1 rfl (hb X.2.2.2.1 hd) hl) k
theorem own_iload (X : own_A l Z own cb ml n0 p e R s m args below meth c T h locs cells slots) {i : Nat} {v : Int32} (hd : decode cb pc = .ok (.iload i, 2)) (hp : pc + 2 = pc') (hl : Ls[i]? = some (.val (.int v))) (k : own_E p e below G (T.setTop (mkF m pc' Ls (.int v :: S)))) : own_E p e below G (T.setTop (mkF m pc Ls S)) := by
  subst hp; exact own_go (fun _ => XS.iload X.1.here X.2.1 rfl (hb X.2.2.2.1 hd) hl) k
theorem own_istoreN (X : own_A l Z own cb ml n0 p e R s m args below meth c T h locs cells slots) {i : Fin 4} {x y : Int32} (hd : decode cb pc = .ok (.istore_n i, 1)) (hp : pc + 1 = pc') (hv : x = y) (hl : storeLocals Ls i.val (.int y) = some Ls') (k : own_E p e below G (T.setTop (mkF m pc' Ls' S))) : own_E p e below G (T.setTop (mkF m pc Ls (.int x :: S))) := by
  subst hp; subst hv; exact own_go (fun _ => XS.istoreN X.1.here X.2.1 rfl (hb X.2.2.2.1 hd) rfl hl) k
theorem own_istore (X : own_A l Z own cb ml n0 p e R s m args below meth c T h locs cells slots) {i : Nat} {x y : Int32} (hd : decode cb pc = .ok (.istore i, 2)) (hp : pc + 2 = pc') (hv : x = y) (hl : storeLocals Ls i (.int y) = some Ls') (k : own_E p e below G (T.setTop (mkF m pc' Ls' S))) : own_E p e below G (T.setTop (mkF m pc Ls (.int x :: S))) := by
  subst hp; subst hv; exact own_go (fun _ => XS.istore X.1.here X.2.1 rfl (hb X.2.2.2.1 hd) rfl hl) k
theorem own_lloadN (X : own_A l Z own cb ml n0 p e R s m args below meth c T h locs cells slots) {i : Fin 4} {v : Int64} (hd : decode cb pc = .ok (.lload_n i, 1)) (hp : pc + 1 = pc') (hl : Ls[i.val]? = some (.val (.long v))) (k : own_E p e below G (T.setTop (mkF m pc' Ls (.long v :: S)))) : own_E p e below G (T.setTop (mkF m pc Ls S)) := by
  subst hp; exact own_go (fun _ => XS.lloadN X.1.here X.2.1 rfl (hb X.2.2.2.1 hd) hl) k
theorem own_lload (X : own_A l Z own cb ml n0 p e R s m args below meth c T h locs cells slots) {i : Nat} {v : Int64} (hd : decode cb pc = .ok (.lload i, 2)) (hp : pc + 2 = pc') (hl : Ls[i]? = some (.val (.long v))) (k : own_E p e below G (T.setTop (mkF m pc' Ls (.long v :: S)))) : own_E p e below G (T.setTop (mkF m pc Ls S)) := by
  subst hp; exact own_go (fun _ => XS.lload X.1.here X.2.1 rfl (hb X.2.2.2.1 hd) hl) k
theorem own_lstoreN (X : own_A l Z own cb ml n0 p e R s m args below meth c T h locs cells slots) {i : Fin 4} {x y : Int64} (hd : decode cb pc = .ok (.lstore_n i, 1)) (hp : pc + 1 = pc') (hv : x = y) (hl : storeLocals Ls i.val (.long y) = some Ls') (k : own_E p e below G (T.setTop (mkF m pc' Ls' S))) : own_E p e below G (T.setTop (mkF m pc Ls (.long x :: S))) := by
  subst hp; subst hv; exact own_go (fun _ => XS.lstoreN X.1.here X.2.1 rfl (hb X.2.2.2.1 hd) rfl hl) k
theorem own_lstore (X : own_A l Z own cb ml n0 p e R s m args below meth c T h locs cells slots) {i : Nat} {x y : Int64} (hd : decode cb pc = .ok (.lstore i, 2)) (hp : pc + 2 = pc') (hv : x = y) (hl : storeLocals Ls i (.long y) = some Ls') (k : own_E p e below G (T.setTop (mkF m pc' Ls' S))) : own_E p e below G (T.setTop (mkF m pc Ls (.long x :: S))) := by
  subst hp; subst hv; exact own_go (fun _ => XS.lstore X.1.here X.2.1 rfl (hb X.2.2.2.1 hd) rfl hl) k
theorem own_aloadN (X : own_A l Z own cb ml n0 p e R s m args below meth c T h locs cells slots) {i : Fin 4} {v : Value} (hd : decode cb pc = .ok (.aload_n i, 1)) (hp : pc + 1 = pc') (hl : Ls[i.val]? = some (.val v)) (hr : v.isRef = true) (k : own_E p e below G (T.setTop (mkF m pc' Ls (v :: S)))) : own_E p e below G (T.setTop (mkF m pc Ls S)) := by
  subst hp; exact own_go (fun _ => XS.aloadN X.1.here X.2.1 rfl (hb X.2.2.2.1 hd) hl hr) k
theorem own_aload (X : own_A l Z own cb ml n0 p e R s m args below meth c T h locs cells slots) {i : Nat} {v : Value} (hd : decode cb pc = .ok (.aload i, 2)) (hp : pc + 2 = pc') (hl : Ls[i]? = some (.val v)) (hr : v.isRef = true) (k : own_E p e below G (T.setTop (mkF m pc' Ls (v :: S)))) : own_E p e below G (T.setTop (mkF m pc Ls S)) := by
  subst hp; exact own_go (fun _ => XS.aload X.1.here X.2.1 rfl (hb X.2.2.2.1 hd) hl hr) k
theorem own_astoreN (X : own_A l Z own cb ml n0 p e R s m args below meth c T h locs cells slots) {i : Fin 4} {v : Value} (hd : decode cb pc = .ok (.astore_n i, 1)) (hp : pc + 1 = pc') (hr : v.isRef = true) (hl : storeLocals Ls i.val v = some Ls') (k : own_E p e below G (T.setTop (mkF m pc' Ls' S))) : own_E p e below G (T.setTop (mkF m pc Ls (v :: S))) := by
  subst hp; exact own_go (fun _ => XS.astoreN X.1.here X.2.1 rfl (hb X.2.2.2.1 hd) rfl hr hl) k
theorem own_astore (X : own_A l Z own cb ml n0 p e R s m args below meth c T h locs cells slots) {i : Nat} {v : Value} (hd : decode cb pc = .ok (.astore i, 2)) (hp : pc + 2 = pc') (hr : v.isRef = true) (hl : storeLocals Ls i v = some Ls') (k : own_E p e below G (T.setTop (mkF m pc' Ls' S))) : own_E p e below G (T.setTop (mkF m pc Ls (v :: S))) := by
  subst hp; exact own_go (fun _ => XS.astore X.1.here X.2.1 rfl (hb X.2.2.2.1 hd) rfl hr hl) k
theorem own_iconst (X : own_A l Z own cb ml n0 p e R s m args below meth c T h locs cells slots) {i : Int} {z : Int32} (hd : decode cb pc = .ok (.iconst i, 1)) (hp : pc + 1 = pc') (hz : Int32.ofInt i = z) (k : own_E p e below G (T.setTop (mkF m pc' Ls (.int z :: S)))) : own_E p e below G (T.setTop (mkF m pc Ls S)) := by
  subst hp; subst hz; exact own_go (fun _ => XS.iconst X.1.here X.2.1 rfl (hb X.2.2.2.1 hd)) k
theorem own_bipush (X : own_A l Z own cb ml n0 p e R s m args below meth c T h locs cells slots) {i : Int} {z : Int32} (hd : decode cb pc = .ok (.bipush i, 2)) (hp : pc + 2 = pc') (hz : (Int8.ofInt i).toInt32 = z) (k : own_E p e below G (T.setTop (mkF m pc' Ls (.int z :: S)))) : own_E p e below G (T.setTop (mkF m pc Ls S)) := by
  subst hp; subst hz; exact own_go (fun _ => XS.bipush X.1.here X.2.1 rfl (hb X.2.2.2.1 hd)) k
theorem own_sipush (X : own_A l Z own cb ml n0 p e R s m args below meth c T h locs cells slots) {i : Int} {z : Int32} (hd : decode cb pc = .ok (.sipush i, 3)) (hp : pc + 3 = pc') (hz : (Int16.ofInt i).toInt32 = z) (k : own_E p e below G (T.setTop (mkF m pc' Ls (.int z :: S)))) : own_E p e below G (T.setTop (mkF m pc Ls S)) := by
  subst hp; subst hz; exact own_go (fun _ => XS.sipush X.1.here X.2.1 rfl (hb X.2.2.2.1 hd)) k
theorem own_lconst (X : own_A l Z own cb ml n0 p e R s m args below meth c T h locs cells slots) {i : Fin 2} {z : Int64} (hd : decode cb pc = .ok (.lconst i, 1)) (hp : pc + 1 = pc') (hz : Int64.ofNat i = z) (k : own_E p e below G (T.setTop (mkF m pc' Ls (.long z :: S)))) : own_E p e below G (T.setTop (mkF m pc Ls S)) := by
  subst hp; subst hz; exact own_go (fun _ => XS.lconst X.1.here X.2.1 rfl (hb X.2.2.2.1 hd)) k
theorem own_anull (X : own_A l Z own cb ml n0 p e R s m args below meth c T h locs cells slots)  (hd : decode cb pc = .ok (.aconst_null, 1)) (hp : pc + 1 = pc') (k : own_E p e below G (T.setTop (mkF m pc' Ls (.null :: S)))) : own_E p e below G (T.setTop (mkF m pc Ls S)) := by
  subst hp; exact own_go (fun _ => XS.aconstNull X.1.here X.2.1 rfl (hb X.2.2.2.1 hd)) k
theorem own_iadd (X : own_A l Z own cb ml n0 p e R s m args below meth c T h locs cells slots) {x y z : Int32} (hd : decode cb pc = .ok (.iadd, 1)) (hp : pc + 1 = pc') (hz : x + y = z) (k : own_E p e below G (T.setTop (mkF m pc' Ls (.int z :: S)))) : own_E p e below G (T.setTop (mkF m pc Ls (.int y :: .int x :: S))) := by
  subst hp; subst hz; exact own_go (fun _ => XS.iadd X.1.here X.2.1 rfl (hb X.2.2.2.1 hd) rfl) k
theorem own_isub (X : own_A l Z own cb ml n0 p e R s m args below meth c T h locs cells slots) {x y z : Int32} (hd : decode cb pc = .ok (.isub, 1)) (hp : pc + 1 = pc') (hz : x - y = z) (k : own_E p e below G (T.setTop (mkF m pc' Ls (.int z :: S)))) : own_E p e below G (T.setTop (mkF m pc Ls (.int y :: .int x :: S))) := by
  subst hp; subst hz; exact own_go (fun _ => XS.isub X.1.here X.2.1 rfl (hb X.2.2.2.1 hd) rfl) k
theorem own_imul (X : own_A l Z own cb ml n0 p e R s m args below meth c T h locs cells slots) {x y z : Int32} (hd : decode cb pc = .ok (.imul, 1)) (hp : pc + 1 = pc') (hz : x * y = z) (k : own_E p e below G (T.setTop (mkF m pc' Ls (.int z :: S)))) : own_E p e below G (T.setTop (mkF m pc Ls (.int y :: .int x :: S))) := by
  subst hp; subst hz; exact own_go (fun _ => XS.imul X.1.here X.2.1 rfl (hb X.2.2.2.1 hd) rfl) k
theorem own_iand (X : own_A l Z own cb ml n0 p e R s m args below meth c T h locs cells slots) {x y z : Int32} (hd : decode cb pc = .ok (.iand, 1)) (hp : pc + 1 = pc') (hz : x &&& y = z) (k : own_E p e below G (T.setTop (mkF m pc' Ls (.int z :: S)))) : own_E p e below G (T.setTop (mkF m pc Ls (.int y :: .int x :: S))) := by
  subst hp; subst hz; exact own_go (fun _ => XS.iand X.1.here X.2.1 rfl (hb X.2.2.2.1 hd) rfl) k
theorem own_ior (X : own_A l Z own cb ml n0 p e R s m args below meth c T h locs cells slots) {x y z : Int32} (hd : decode cb pc = .ok (.ior, 1)) (hp : pc + 1 = pc') (hz : x ||| y = z) (k : own_E p e below G (T.setTop (mkF m pc' Ls (.int z :: S)))) : own_E p e below G (T.setTop (mkF m pc Ls (.int y :: .int x :: S))) := by
  subst hp; subst hz; exact own_go (fun _ => XS.ior X.1.here X.2.1 rfl (hb X.2.2.2.1 hd) rfl) k
theorem own_ixor (X : own_A l Z own cb ml n0 p e R s m args below meth c T h locs cells slots) {x y z : Int32} (hd : decode cb pc = .ok (.ixor, 1)) (hp : pc + 1 = pc') (hz : x ^^^ y = z) (k : own_E p e below G (T.setTop (mkF m pc' Ls (.int z :: S)))) : own_E p e below G (T.setTop (mkF m pc Ls (.int y :: .int x :: S))) := by
  subst hp; subst hz; exact own_go (fun _ => XS.ixor X.1.here X.2.1 rfl (hb X.2.2.2.1 hd) rfl) k
theorem own_ishl (X : own_A l Z own cb ml n0 p e R s m args below meth c T h locs cells slots) {x y z : Int32} (hd : decode cb pc = .ok (.ishl, 1)) (hp : pc + 1 = pc') (hz : x <<< (y &&& 31) = z) (k : own_E p e below G (T.setTop (mkF m pc' Ls (.int z :: S)))) : own_E p e below G (T.setTop (mkF m pc Ls (.int y :: .int x :: S))) := by
  subst hp; subst hz; exact own_go (fun _ => XS.ishl X.1.here X.2.1 rfl (hb X.2.2.2.1 hd) rfl) k
theorem own_ishr (X : own_A l Z own cb ml n0 p e R s m args below meth c T h locs cells slots) {x y z : Int32} (hd : decode cb pc = .ok (.ishr, 1)) (hp : pc + 1 = pc') (hz : x >>> (y &&& 31) = z) (k : own_E p e below G (T.setTop (mkF m pc' Ls (.int z :: S)))) : own_E p e below G (T.setTop (mkF m pc Ls (.int y :: .int x :: S))) := by
  subst hp; subst hz; exact own_go (fun _ => XS.ishr X.1.here X.2.1 rfl (hb X.2.2.2.1 hd) rfl) k
theorem own_iushr (X : own_A l Z own cb ml n0 p e R s m args below meth c T h locs cells slots) {x y z : Int32} (hd : decode cb pc = .ok (.iushr, 1)) (hp : pc + 1 = pc') (hz : (x.toUInt32 >>> (y &&& 31).toUInt32).toInt32 = z) (k : own_E p e below G (T.setTop (mkF m pc' Ls (.int z :: S)))) : own_E p e below G (T.setTop (mkF m pc Ls (.int y :: .int x :: S))) := by
  subst hp; subst hz; exact own_go (fun _ => XS.iushr X.1.here X.2.1 rfl (hb X.2.2.2.1 hd) rfl) k
theorem own_ladd (X : own_A l Z own cb ml n0 p e R s m args below meth c T h locs cells slots) {x y z : Int64} (hd : decode cb pc = .ok (.ladd, 1)) (hp : pc + 1 = pc') (hz : x + y = z) (k : own_E p e below G (T.setTop (mkF m pc' Ls (.long z :: S)))) : own_E p e below G (T.setTop (mkF m pc Ls (.long y :: .long x :: S))) := by
  subst hp; subst hz; exact own_go (fun _ => XS.ladd X.1.here X.2.1 rfl (hb X.2.2.2.1 hd) rfl) k
theorem own_lsub (X : own_A l Z own cb ml n0 p e R s m args below meth c T h locs cells slots) {x y z : Int64} (hd : decode cb pc = .ok (.lsub, 1)) (hp : pc + 1 = pc') (hz : x - y = z) (k : own_E p e below G (T.setTop (mkF m pc' Ls (.long z :: S)))) : own_E p e below G (T.setTop (mkF m pc Ls (.long y :: .long x :: S))) := by
  subst hp; subst hz; exact own_go (fun _ => XS.lsub X.1.here X.2.1 rfl (hb X.2.2.2.1 hd) rfl) k
theorem own_lmul (X : own_A l Z own cb ml n0 p e R s m args below meth c T h locs cells slots) {x y z : Int64} (hd : decode cb pc = .ok (.lmul, 1)) (hp : pc + 1 = pc') (hz : x * y = z) (k : own_E p e below G (T.setTop (mkF m pc' Ls (.long z :: S)))) : own_E p e below G (T.setTop (mkF m pc Ls (.long y :: .long x :: S))) := by
  subst hp; subst hz; exact own_go (fun _ => XS.lmul X.1.here X.2.1 rfl (hb X.2.2.2.1 hd) rfl) k
theorem own_land (X : own_A l Z own cb ml n0 p e R s m args below meth c T h locs cells slots) {x y z : Int64} (hd : decode cb pc = .ok (.land, 1)) (hp : pc + 1 = pc') (hz : x &&& y = z) (k : own_E p e below G (T.setTop (mkF m pc' Ls (.long z :: S)))) : own_E p e below G (T.setTop (mkF m pc Ls (.long y :: .long x :: S))) := by
  subst hp; subst hz; exact own_go (fun _ => XS.land X.1.here X.2.1 rfl (hb X.2.2.2.1 hd) rfl) k
theorem own_lor (X : own_A l Z own cb ml n0 p e R s m args below meth c T h locs cells slots) {x y z : Int64} (hd : decode cb pc = .ok (.lor, 1)) (hp : pc + 1 = pc') (hz : x ||| y = z) (k : own_E p e below G (T.setTop (mkF m pc' Ls (.long z :: S)))) : own_E p e below G (T.setTop (mkF m pc Ls (.long y :: .long x :: S))) := by
  subst hp; subst hz; exact own_go (fun _ => XS.lor X.1.here X.2.1 rfl (hb X.2.2.2.1 hd) rfl) k
theorem own_lxor (X : own_A l Z own cb ml n0 p e R s m args below meth c T h locs cells slots) {x y z : Int64} (hd : decode cb pc = .ok (.lxor, 1)) (hp : pc + 1 = pc') (hz : x ^^^ y = z) (k : own_E p e below G (T.setTop (mkF m pc' Ls (.long z :: S)))) : own_E p e below G (T.setTop (mkF m pc Ls (.long y :: .long x :: S))) := by
  subst hp; subst hz; exact own_go (fun _ => XS.lxor X.1.here X.2.1 rfl (hb X.2.2.2.1 hd) rfl) k
theorem own_lshl (X : own_A l Z own cb ml n0 p e R s m args below meth c T h locs cells slots) {x z : Int64} {y : Int32} (hd : decode cb pc = .ok (.lshl, 1)) (hp : pc + 1 = pc') (hz : x <<< (y &&& 0x3f).toInt64 = z) (k : own_E p e below G (T.setTop (mkF m pc' Ls (.long z :: S)))) : own_E p e below G (T.setTop (mkF m pc Ls (.int y :: .long x :: S))) := by
  subst hp; subst hz; exact own_go (fun _ => XS.lshl X.1.here X.2.1 rfl (hb X.2.2.2.1 hd) rfl) k
theorem own_lshr (X : own_A l Z own cb ml n0 p e R s m args below meth c T h locs cells slots) {x z : Int64} {y : Int32} (hd : decode cb pc = .ok (.lshr, 1)) (hp : pc + 1 = pc') (hz : x >>> (y &&& 0x3f).toInt64 = z) (k : own_E p e below G (T.setTop (mkF m pc' Ls (.long z :: S)))) : own_E p e below G (T.setTop (mkF m pc Ls (.int y :: .long x :: S))) := by
  subst hp; subst hz; exact own_go (fun _ => XS.lshr X.1.here X.2.1 rfl (hb X.2.2.2.1 hd) rfl) k
theorem own_lushr (X : own_A l Z own cb ml n0 p e R s m args below meth c T h locs cells slots) {x z : Int64} {y : Int32} (hd : decode cb pc = .ok (.lushr, 1)) (hp : pc + 1 = pc') (hz : (x.toUInt64 >>> (y &&& 0x3f).toInt64.toUInt64).toInt64 = z) (k : own_E p e below G (T.setTop (mkF m pc' Ls (.long z :: S)))) : own_E p e below G (T.setTop (mkF m pc Ls (.int y :: .long x :: S))) := by
  subst hp; subst hz; exact own_go (fun _ => XS.lushr X.1.here X.2.1 rfl (hb X.2.2.2.1 hd) rfl) k
theorem own_idiv (X : own_A l Z own cb ml n0 p e R s m args below meth c T h locs cells slots) {x y z : Int32} (hd : decode cb pc = .ok (.idiv, 1)) (hp : pc + 1 = pc') (hy : y ≠ 0) (hz : x / y = z) (k : own_E p e below G (T.setTop (mkF m pc' Ls (.int z :: S)))) : own_E p e below G (T.setTop (mkF m pc Ls (.int y :: .int x :: S))) := by
  subst hp; subst hz; exact own_go (fun _ => XS.idiv X.1.here X.2.1 rfl (hb X.2.2.2.1 hd) rfl hy) k
theorem own_irem (X : own_A l Z own cb ml n0 p e R s m args below meth c T h locs cells slots) {x y z : Int32} (hd : decode cb pc = .ok (.irem, 1)) (hp : pc + 1 = pc') (hy : y ≠ 0) (hz : x % y = z) (k : own_E p e below G (T.setTop (mkF m pc' Ls (.int z :: S)))) : own_E p e below G (T.setTop (mkF m pc Ls (.int y :: .int x :: S))) := by
  subst hp; subst hz; exact own_go (fun _ => iremM X.1 X.2.1 rfl (hb X.2.2.2.1 hd) rfl hy) k
theorem own_ldiv (X : own_A l Z own cb ml n0 p e R s m args below meth c T h locs cells slots) {x y z : Int64} (hd : decode cb pc = .ok (.ldiv, 1)) (hp : pc + 1 = pc') (hy : y ≠ 0) (hz : x / y = z) (k : own_E p e below G (T.setTop (mkF m pc' Ls (.long z :: S)))) : own_E p e below G (T.setTop (mkF m pc Ls (.long y :: .long x :: S))) := by
  subst hp; subst hz; exact own_go (fun _ => XS.ldiv X.1.here X.2.1 rfl (hb X.2.2.2.1 hd) rfl hy) k
theorem own_lrem (X : own_A l Z own cb ml n0 p e R s m args below meth c T h locs cells slots) {x y z : Int64} (hd : decode cb pc = .ok (.lrem, 1)) (hp : pc + 1 = pc') (hy : y ≠ 0) (hz : x - (x / y) * y = z) (k : own_E p e below G (T.setTop (mkF m pc' Ls (.long z :: S)))) : own_E p e below G (T.setTop (mkF m pc Ls (.long y :: .long x :: S))) := by
  subst hp; subst hz; exact own_go (fun _ => XS.lrem X.1.here X.2.1 rfl (hb X.2.2.2.1 hd) rfl hy) k
theorem own_ineg (X : own_A l Z own cb ml n0 p e R s m args below meth c T h locs cells slots) {x : Int32} {z : Int32} (hd : decode cb pc = .ok (.ineg, 1)) (hp : pc + 1 = pc') (hz : -x = z) (k : own_E p e below G (T.setTop (mkF m pc' Ls (.int z :: S)))) : own_E p e below G (T.setTop (mkF m pc Ls (.int x :: S))) := by
  subst hp; subst hz; exact own_go (fun _ => XS.ineg X.1.here X.2.1 rfl (hb X.2.2.2.1 hd) rfl) k
theorem own_lneg (X : own_A l Z own cb ml n0 p e R s m args below meth c T h locs cells slots) {x : Int64} {z : Int64} (hd : decode cb pc = .ok (.lneg, 1)) (hp : pc + 1 = pc') (hz : -x = z) (k : own_E p e below G (T.setTop (mkF m pc' Ls (.long z :: S)))) : own_E p e below G (T.setTop (mkF m pc Ls (.long x :: S))) := by
  subst hp; subst hz; exact own_go (fun _ => XS.lneg X.1.here X.2.1 rfl (hb X.2.2.2.1 hd) rfl) k
theorem own_i2l (X : own_A l Z own cb ml n0 p e R s m args below meth c T h locs cells slots) {x : Int32} {z : Int64} (hd : decode cb pc = .ok (.i2l, 1)) (hp : pc + 1 = pc') (hz : x.toInt64 = z) (k : own_E p e below G (T.setTop (mkF m pc' Ls (.long z :: S)))) : own_E p e below G (T.setTop (mkF m pc Ls (.int x :: S))) := by
  subst hp; subst hz; exact own_go (fun _ => XS.i2l X.1.here X.2.1 rfl (hb X.2.2.2.1 hd) rfl) k
theorem own_l2i (X : own_A l Z own cb ml n0 p e R s m args below meth c T h locs cells slots) {x : Int64} {z : Int32} (hd : decode cb pc = .ok (.l2i, 1)) (hp : pc + 1 = pc') (hz : x.toInt32 = z) (k : own_E p e below G (T.setTop (mkF m pc' Ls (.int z :: S)))) : own_E p e below G (T.setTop (mkF m pc Ls (.long x :: S))) := by
  subst hp; subst hz; exact own_go (fun _ => XS.l2i X.1.here X.2.1 rfl (hb X.2.2.2.1 hd) rfl) k
theorem own_i2b (X : own_A l Z own cb ml n0 p e R s m args below meth c T h locs cells slots) {x : Int32} {z : Int32} (hd : decode cb pc = .ok (.i2b, 1)) (hp : pc + 1 = pc') (hz : x.toInt8.toInt32 = z) (k : own_E p e below G (T.setTop (mkF m pc' Ls (.int z :: S)))) : own_E p e below G (T.setTop (mkF m pc Ls (.int x :: S))) := by
  subst hp; subst hz; exact own_go (fun _ => XS.i2b X.1.here X.2.1 rfl (hb X.2.2.2.1 hd) rfl) k
theorem own_i2s (X : own_A l Z own cb ml n0 p e R s m args below meth c T h locs cells slots) {x : Int32} {z : Int32} (hd : decode cb pc = .ok (.i2s, 1)) (hp : pc + 1 = pc') (hz : x.toInt16.toInt32 = z) (k : own_E p e below G (T.setTop (mkF m pc' Ls (.int z :: S)))) : own_E p e below G (T.setTop (mkF m pc Ls (.int x :: S))) := by
  subst hp; subst hz; exact own_go (fun _ => XS.i2s X.1.here X.2.1 rfl (hb X.2.2.2.1 hd) rfl) k
theorem own_i2c (X : own_A l Z own cb ml n0 p e R s m args below meth c T h locs cells slots) {x : Int32} {z : Int32} (hd : decode cb pc = .ok (.i2c, 1)) (hp : pc + 1 = pc') (hz : x.toUInt32.toUInt16.toUInt32.toInt32 = z) (k : own_E p e below G (T.setTop (mkF m pc' Ls (.int z :: S)))) : own_E p e below G (T.setTop (mkF m pc Ls (.int x :: S))) := by
  subst hp; subst hz; exact own_go (fun _ => XS.i2c X.1.here X.2.1 rfl (hb X.2.2.2.1 hd) rfl) k
theorem own_iinc (X : own_A l Z own cb ml n0 p e R s m args below meth c T h locs cells slots) {i : Nat} {cst : Int} {x z : Int32} (hd : decode cb pc = .ok (.iinc i cst, 3)) (hp : pc + 3 = pc') (hl : Ls[i]? = some (.val (.int x))) (hz : x + Int32.ofInt cst = z) (hl' : storeLocals Ls i (.int z) = some Ls') (k : own_E p e below G (T.setTop (mkF m pc' Ls' S))) : own_E p e below G (T.setTop (mkF m pc Ls S)) := by
  subst hp; subst hz; exact own_go (fun _ => XS.iinc X.1.here X.2.1 rfl (hb X.2.2.2.1 hd) hl hl') k
theorem own_dup (X : own_A l Z own cb ml n0 p e R s m args below meth c T h locs cells slots) {v : Value} (hd : decode cb pc = .ok (.dup, 1)) (hp : pc + 1 = pc') (hc : v.category = 1) (k : own_E p e below G (T.setTop (mkF m pc' Ls (v :: v :: S)))) : own_E p e below G (T.setTop (mkF m pc Ls (v :: S))) := by
  subst hp; exact own_go (fun _ => XS.dup X.1.here X.2.1 rfl (hb X.2.2.2.1 hd) rfl hc) k
theorem own_pop (X : own_A l Z own cb ml n0 p e R s m args below meth c T h locs cells slots) {v : Value} (hd : decode cb pc = .ok (.pop, 1)) (hp : pc + 1 = pc') (hc : v.category = 1) (k : own_E p e below G (T.setTop (mkF m pc' Ls S))) : own_E p e below G (T.setTop (mkF m pc Ls (v :: S))) := by
  subst hp; exact own_go (fun _ => XS.pop X.1.here X.2.1 rfl (hb X.2.2.2.1 hd) rfl hc) k
theorem own_goto (X : own_A l Z own cb ml n0 p e R s m args below meth c T h locs cells slots) {o : Int} (hd : decode cb pc = .ok (.goto o, 3)) (ho : 0 ≤ (pc : Int) + o) (hp : ((pc : Int) + o).toNat = pc') (k : own_E p e below G (T.setTop (mkF m pc' Ls S))) : own_E p e below G (T.setTop (mkF m pc Ls S)) :=
  own_go (fun _ => XS.goto X.1.here X.2.1 rfl rfl (hb X.2.2.2.1 hd) ho hp) k
theorem own_icmpY (X : own_A l Z own cb ml n0 p e R s m args below meth c T h locs cells slots) {cd : ClassFile.Cond} {o : Int} {x y : Int32} (hd : decode cb pc = .ok (.if_icmp cd o, 3)) (hc : if_icmp.holds cd x y = true) (ho : 0 ≤ (pc : Int) + o) (hp : ((pc : Int) + o).toNat = pc') (k : own_E p e below G (T.setTop (mkF m pc' Ls S))) : own_E p e below G (T.setTop (mkF m pc Ls (.int y :: .int x :: S))) :=
  own_go (fun _ => XS.icmpYes X.1.here X.2.1 rfl rfl (hb X.2.2.2.1 hd) rfl hc ho hp) k
theorem own_icmpN (X : own_A l Z own cb ml n0 p e R s m args below meth c T h locs cells slots) {cd : ClassFile.Cond} {o : Int} {x y : Int32} (hd : decode cb pc = .ok (.if_icmp cd o, 3)) (hc : if_icmp.holds cd x y = false) (hp : pc + 3 = pc') (k : own_E p e below G (T.setTop (mkF m pc' Ls S))) : own_E p e below G (T.setTop (mkF m pc Ls (.int y :: .int x :: S))) := by
  subst hp; exact own_go (fun _ => XS.icmpNo X.1.here X.2.1 rfl (hb X.2.2.2.1 hd) rfl hc) k
theorem own_ifY (X : own_A l Z own cb ml n0 p e R s m args below meth c T h locs cells slots) {cd : ClassFile.Cond} {o : Int} {x : Int32} (hd : decode cb pc = .ok (.ifCond cd o, 3)) (hc : if_icmp.holds cd x 0 = true) (ho : 0 ≤ (pc : Int) + o) (hp : ((pc : Int) + o).toNat = pc') (k : own_E p e below G (T.setTop (mkF m pc' Ls S))) : own_E p e below G (T.setTop (mkF m pc Ls (.int x :: S))) :=
  own_go (fun _ => XS.ifYes X.1.here X.2.1 rfl rfl (hb X.2.2.2.1 hd) rfl ((if0 _ _).trans hc) ho hp) k
theorem own_ifN (X : own_A l Z own cb ml n0 p e R s m args below meth c T h locs cells slots) {cd : ClassFile.Cond} {o : Int} {x : Int32} (hd : decode cb pc = .ok (.ifCond cd o, 3)) (hc : if_icmp.holds cd x 0 = false) (hp : pc + 3 = pc') (k : own_E p e below G (T.setTop (mkF m pc' Ls S))) : own_E p e below G (T.setTop (mkF m pc Ls (.int x :: S))) := by
  subst hp; exact own_go (fun _ => XS.ifNo X.1.here X.2.1 rfl (hb X.2.2.2.1 hd) rfl ((if0 _ _).trans hc)) k
theorem own_ljY (X : own_A l Z own cb ml n0 p e R s m args below meth c T h locs cells slots) {cd : ClassFile.Cond} {o : Int} {x y : Int64} {pc1 : Nat} (hd1 : decode cb pc = .ok (.lcmp, 1)) (h1 : pc + 1 = pc1) (hd : decode cb pc1 = .ok (.ifCond cd o, 3)) (hc : if_icmp.holds cd (lcmpW x y) 0 = true) (ho : 0 ≤ (pc1 : Int) + o) (hp : ((pc1 : Int) + o).toNat = pc') (k : own_E p e below G (T.setTop (mkF m pc' Ls S))) : own_E p e below G (T.setTop (mkF m pc Ls (.long y :: .long x :: S))) := by
  subst h1
  exact own_go (fun _ k => XS.lcmp X.1.here X.2.1 rfl (hb X.2.2.2.1 hd1) rfl (XS.ifYes X.1.here X.2.1 rfl rfl (hb X.2.2.2.1 hd) rfl ((if0 _ _).trans hc) ho hp k)) k
theorem own_ljN (X : own_A l Z own cb ml n0 p e R s m args below meth c T h locs cells slots) {cd : ClassFile.Cond} {o : Int} {x y : Int64} {pc1 : Nat} (hd1 : decode cb pc = .ok (.lcmp, 1)) (h1 : pc + 1 = pc1) (hd : decode cb pc1 = .ok (.ifCond cd o, 3)) (hc : if_icmp.holds cd (lcmpW x y) 0 = false) (hp : pc1 + 3 = pc') (k : own_E p e below G (T.setTop (mkF m pc' Ls S))) : own_E p e below G (T.setTop (mkF m pc Ls (.long y :: .long x :: S))) := by
  subst h1; subst hp
  exact own_go (fun _ k => XS.lcmp X.1.here X.2.1 rfl (hb X.2.2.2.1 hd1) rfl (XS.ifNo X.1.here X.2.1 rfl (hb X.2.2.2.1 hd) rfl ((if0 _ _).trans hc) k)) k
theorem own_tltL {x y : Int64} (q : x < y) : if_icmp.holds .lt (lcmpW x y) 0 = true ∧ if_icmp.holds .ge (lcmpW x y) 0 = false ∧ if_icmp.holds .gt (lcmpW y x) 0 = true ∧ if_icmp.holds .le (lcmpW y x) 0 = false :=
  ⟨(tlt ((lw_lt x y).mpr q)).1, (tlt ((lw_lt x y).mpr q)).2.1, (tlt ((lw_gt y x).mpr q)).2.2.1, (tlt ((lw_gt y x).mpr q)).2.2.2⟩
theorem own_fltL {x y : Int64} (q : ¬ x < y) : if_icmp.holds .lt (lcmpW x y) 0 = false ∧ if_icmp.holds .ge (lcmpW x y) 0 = true ∧ if_icmp.holds .gt (lcmpW y x) 0 = false ∧ if_icmp.holds .le (lcmpW y x) 0 = true :=
  ⟨(flt (fun z => q ((lw_lt x y).mp z))).1, (flt (fun z => q ((lw_lt x y).mp z))).2.1, (flt (fun z => q ((lw_gt y x).mp z))).2.2.1, (flt (fun z => q ((lw_gt y x).mp z))).2.2.2⟩
theorem own_teqL {x y : Int64} (q : x = y) : if_icmp.holds .eq (lcmpW x y) 0 = true ∧ if_icmp.holds .ne (lcmpW x y) 0 = false := teq ((lw_eq x y).mpr q)
theorem own_feqL {x y : Int64} (q : ¬ x = y) : if_icmp.holds .eq (lcmpW x y) 0 = false ∧ if_icmp.holds .ne (lcmpW x y) 0 = true := feq (fun z => q ((lw_eq x y).mp z))
theorem own_ifnullY (X : own_A l Z own cb ml n0 p e R s m args below meth c T h locs cells slots) {o : Int} (hd : decode cb pc = .ok (.ifnull o, 3)) (ho : 0 ≤ (pc : Int) + o) (hp : ((pc : Int) + o).toNat = pc') (k : own_E p e below G (T.setTop (mkF m pc' Ls S))) : own_E p e below G (T.setTop (mkF m pc Ls (.null :: S))) :=
  own_go (fun _ => XS.ifnullYes X.1.here X.2.1 rfl rfl (hb X.2.2.2.1 hd) rfl ho hp) k
theorem own_ifnullN (X : own_A l Z own cb ml n0 p e R s m args below meth c T h locs cells slots) {o : Int} {b : Addr} (hd : decode cb pc = .ok (.ifnull o, 3)) (hp : pc + 3 = pc') (k : own_E p e below G (T.setTop (mkF m pc' Ls S))) : own_E p e below G (T.setTop (mkF m pc Ls (.ref b :: S))) := by
  subst hp; exact own_go (fun _ => XS.ifnullNo X.1.here X.2.1 rfl (hb X.2.2.2.1 hd) rfl) k
theorem own_ldc (X : own_A l Z own cb ml n0 p e R s m args below meth c T h locs cells slots) {i : Nat} {v : Int32} (w : (Jvm.Cond.constant own i v).before a0 Z = true) (hd : decode cb pc = .ok (.ldc i, 2)) (hp : pc + 2 = pc') (k : own_E p e below G (T.setTop (mkF m pc' Ls (.int v :: S)))) : own_E p e below G (T.setTop (mkF m pc Ls S)) := by
  subst hp; exact own_go (X.1.ldcInt X.2.1 X.2.2.2.2.2.1 (mvT X.2.2.1 w) rfl (hb X.2.2.2.1 hd)) k
theorem own_ldc2 (X : own_A l Z own cb ml n0 p e R s m args below meth c T h locs cells slots) {i : Nat} {v : Int64} (w : (Jvm.Cond.constantLong own i v).before a0 Z = true) (hd : decode cb pc = .ok (.ldc2_w i, 3)) (hp : pc + 3 = pc') (k : own_E p e below G (T.setTop (mkF m pc' Ls (.long v :: S)))) : own_E p e below G (T.setTop (mkF m pc Ls S)) := by
  subst hp; exact own_go (X.1.ldc2Long X.2.1 X.2.2.2.2.2.1 (mvT X.2.2.1 w) rfl (hb X.2.2.2.1 hd)) k
theorem own_callS (X : own_A l Z own cb ml n0 p e R s m args below meth c T h locs cells slots) {y : MethodName} {cb' : ByteArray} {ml' : Nat} {ret' : Option FieldType} {rm : Room} {argsL st : List Value} {Q : Option Value → Heap → Prop} {i : Nat} (hC : own_Con l Z y cb' ml' ret' rm argsL.toArray h n0 Q)
    (w1 : (Jvm.Cond.methodLink own i y).before a0 Z = true) (w2 : (Jvm.Cond.static y).before a0 Z = true) (w3 : (Jvm.Cond.initialized y.cls).before a0 Z = true) (w4 : (Jvm.Cond.code y cb' ml' ret').before a0 Z = true) (hy : y.cls ≠ "java/lang/invoke/MethodHandle" ∧ y.cls ≠ "java/lang/invoke/VarHandle")
    (hf : rm.frames + 1 ≤ R.frames) (W : Nat) (hl : W + (ml' + 11) + rm.locals ≤ R.locals) (hls : Ls.size = ml) {ps : List FieldType} {r : Option FieldType} (hpd : parseMethodDescriptor y.desc = some ⟨ps, r⟩) (hlen : argsL.length = ps.length) (hst : st = argsL.reverse ++ S) (hW : (S.map fun v => v.category).sum ≤ W) (hcl : cells + rm.cells ≤ R.cells) (hsl : slots + rm.slots ≤ R.slots)
    (hd : decode cb pc = .ok (.invokestatic i, 3)) (hp : pc + 3 = pc') (k : ∀ T' h' locs' v, own_A l Z own cb ml n0 p e R s m args below meth c T' h' locs' (cells + rm.cells) (slots + rm.slots) → Q v h' → own_E p e below G (T'.setTop (mkF m pc' Ls (v.toList ++ S)))) : own_E p e below G (T.setTop (mkF m pc Ls st)) := by
  obtain ⟨X, hx, hZ, hby, hml, hown, eT, N, hsz, hlk⟩ := X
  subst hp
  obtain ⟨v, _, ⟨T', L', k', n'⟩, -, X', ⟨Lc, hQ, q1, q2, q3⟩, stp⟩ := Jvm.LawKit.callS X hx (y := y) hown (mvT hZ w1) (mvT hZ w2) (mvT hZ w3) (mvT hZ w4) hy (backOf (Q := fun v h L => Q v h ∧ Fr n0 L ∧ n0 ≤ h.size) (W := W) (hC []) hZ w4 w3 hf hl) (g := mkF m pc Ls st) rfl (by rw [hml]; exact hls) (argsL := argsL) (rest := S) (lenOf hpd hlen) hst (by show 2 * 0 + _ ≤ _; omega) (hb hby hd) (fun _ _ => ⟨rfl, eT, hcl, hsl⟩)
  dsimp only [Pt.U, Pt.locs, Pt.cells, Pt.slots] at X' q1 q2 q3 stp hQ
  subst q1 q2 q3
  exact own_go stp (k _ _ _ _ ⟨X', hx, hZ, hby, hml, hown, rfl, N.app hQ.2.1, hQ.2.2, hlk⟩ hQ.1)
theorem own_callI (X : own_A l Z own cb ml n0 p e R s m args below meth c T h locs cells slots) {y : MethodName} {cb' : ByteArray} {ml' : Nat} {rm : Room} {a : Addr} {argsL st : List Value} {Q : Option Value → Heap → Prop} {i : Nat} (hC : own_Con l Z y cb' ml' none rm (.ref a :: argsL).toArray h n0 Q) (hy1 : y.name = "<init>")
    (w1 : (Jvm.Cond.methodLink own i y).before a0 Z = true) (w2 : (Jvm.Cond.instanceMethod y).before a0 Z = true) (w3 : (Jvm.Cond.initialized y.cls).before a0 Z = true) (w4 : (Jvm.Cond.code y cb' ml' none).before a0 Z = true) (hy : y.cls ≠ "java/lang/invoke/MethodHandle" ∧ y.cls ≠ "java/lang/invoke/VarHandle")
    (hf : rm.frames + 1 ≤ R.frames) (W : Nat) (hl : W + (ml' + 11) + rm.locals ≤ R.locals) (hls : Ls.size = ml) {ps : List FieldType} {r : Option FieldType} (hpd : parseMethodDescriptor y.desc = some ⟨ps, r⟩) (hlen : argsL.length = ps.length) (hst : st = argsL.reverse ++ .ref a :: S) (hW : (S.map fun v => v.category).sum ≤ W) (hcl : cells + rm.cells ≤ R.cells) (hsl : slots + rm.slots ≤ R.slots)
    (hd : decode cb pc = .ok (.invokespecial i, 3)) (hp : pc + 3 = pc') (k : ∀ T' h' locs' v, own_A l Z own cb ml n0 p e R s m args below meth c T' h' locs' (cells + rm.cells) (slots + rm.slots) → Q v h' → own_E p e below G (T'.setTop (mkF m pc' Ls (v.toList ++ S)))) : own_E p e below G (T.setTop (mkF m pc Ls st)) := by
  obtain ⟨X, hx, hZ, hby, hml, hown, eT, N, hsz, hlk⟩ := X
  subst hp
  obtain ⟨v, _, ⟨T', L', k', n'⟩, -, X', ⟨Lc, hQ, q1, q2, q3⟩, stp⟩ := X.specialBack hx (y := y) hy1 hown (mvT hZ w1) (mvT hZ w2) (mvT hZ w4) hy (backOf (Q := fun v h L => Q v h ∧ Fr n0 L ∧ n0 ≤ h.size) (W := W) (hC []) hZ w4 w3 hf hl) (g := mkF m pc Ls st) rfl (by rw [hml]; exact hls) (Steps.refl _) (a := a) (argsL := argsL) (rest := S) (lenOf hpd hlen) hst (by show 2 * 0 + _ ≤ _; omega) (hb hby hd) (fun _ _ => ⟨rfl, eT, hcl, hsl⟩)
  dsimp only [Pt.U, Pt.locs, Pt.cells, Pt.slots] at X' q1 q2 q3 stp hQ
  subst q1 q2 q3
  exact own_go (fun _ z => stp.trans z) (k _ _ _ _ ⟨X', hx, hZ, hby, hml, hown, rfl, N.app hQ.2.1, hQ.2.2, hlk⟩ hQ.1)
theorem own_callV (X : own_A l Z own cb ml n0 p e R s m args below meth c T h locs cells slots) {y : MethodName} {C : String} {cb' : ByteArray} {ml' : Nat} {ret' : Option FieldType} {rm : Room} {a : Addr} {argsL st : List Value} {Q : Option Value → Heap → Prop} {i : Nat} (hC : own_Con l Z y cb' ml' ret' rm (.ref a :: argsL).toArray h n0 Q) (E : Exa Z h a C)
    (w1 : (Jvm.Cond.methodLink own i y).before a0 Z = true) (w2 : (Jvm.Cond.declares y).before a0 Z = true) (w5 : (Jvm.Cond.selects C y y).before a0 Z = true) (w6 : (Jvm.Cond.instanceMethod y).before a0 Z = true) (w3 : (Jvm.Cond.initialized y.cls).before a0 Z = true) (w4 : (Jvm.Cond.code y cb' ml' ret').before a0 Z = true) (hy : y.cls ≠ "java/lang/invoke/MethodHandle" ∧ y.cls ≠ "java/lang/invoke/VarHandle")
    (hf : rm.frames + 1 ≤ R.frames) (W : Nat) (hl : W + (ml' + 11) + rm.locals ≤ R.locals) (hls : Ls.size = ml) {ps : List FieldType} {r : Option FieldType} (hpd : parseMethodDescriptor y.desc = some ⟨ps, r⟩) (hlen : argsL.length = ps.length) (hst : st = argsL.reverse ++ .ref a :: S) (hW : (S.map fun v => v.category).sum ≤ W) (hcl : cells + rm.cells ≤ R.cells) (hsl : slots + rm.slots ≤ R.slots)
    (hd : decode cb pc = .ok (.invokevirtual i, 3)) (hp : pc + 3 = pc') (hC0 : y.cls = C) (k : ∀ T' h' locs' v, own_A l Z own cb ml n0 p e R s m args below meth c T' h' locs' (cells + rm.cells) (slots + rm.slots) → Q v h' → own_E p e below G (T'.setTop (mkF m pc' Ls (v.toList ++ S)))) : own_E p e below G (T.setTop (mkF m pc Ls st)) := by
  obtain ⟨X, hx, hZ, hby, hml, hown, eT, N, hsz, hlk⟩ := X
  subst hp; subst hC0
  obtain ⟨cq, kq, qa, qb, qc⟩ := isOf hZ eT E
  obtain ⟨v, _, ⟨T', L', k', n'⟩, -, X', ⟨Lc, hQ, q1, q2, q3⟩, stp⟩ := X.virtualBack hx (y := y) (z := y) hown (mvT hZ w1) (mvT hZ w2) (notFace_of_selects (args := #[]) (mvT hZ w5)) (mvT hZ w5) (mvT hZ w6) hy (backOf (Q := fun v h L => Q v h ∧ Fr n0 L ∧ n0 ≤ h.size) (W := W) (hC []) hZ w4 w3 hf hl) qa qc (g := mkF m pc Ls st) rfl (by rw [hml]; exact hls) (Steps.refl _) (argsL := argsL) (rest := S) (lenOf hpd hlen) hst (by show 2 * 0 + _ ≤ _; omega) (hb hby hd) (fun _ _ => ⟨rfl, eT, hcl, hsl⟩)
  dsimp only [Pt.U, Pt.locs, Pt.cells, Pt.slots] at X' q1 q2 q3 stp hQ
  subst q1 q2 q3
  exact own_go (fun _ z => stp.trans z) (k _ _ _ _ ⟨X', hx, hZ, hby, hml, hown, rfl, N.app hQ.2.1, hQ.2.2, hlk⟩ hQ.1)
theorem own_initO (X : own_A l Z own cb ml n0 p e R s m args below meth c T h locs cells slots) {i : Nat} {a : Addr} (w1 : (Jvm.Cond.methodLink own i Lib.objectInit).before a0 Z = true) (w2 : (Jvm.Cond.instanceMethod Lib.objectInit).before a0 Z = true) (w3 : (Jvm.Cond.code Lib.objectInit ⟨#[0xb1]⟩ 1 none).before a0 Z = true) (hls : Ls.size = ml) (hf : 1 ≤ R.frames) (W : Nat) (hW : (S.map fun v => v.category).sum ≤ W) (hl : W + 12 ≤ R.locals)
    (hd : decode cb pc = .ok (.invokespecial i, 3)) (hp : pc + 3 = pc') (k : ∀ T', own_A l Z own cb ml n0 p e R s m args below meth c T' h locs cells slots → own_E p e below G (T'.setTop (mkF m pc' Ls S))) : own_E p e below G (T.setTop (mkF m pc Ls (.ref a :: S))) := by
  obtain ⟨X, hx, hZ, hby, hml, hown, eT, N, hsz, hlk⟩ := X
  subst hp
  obtain ⟨T', X', eT', stp⟩ := initO X hx hZ hown w1 w2 w3 eT (g := mkF m pc Ls (.ref a :: S)) rfl (by rw [hml]; exact hls) rfl (hb hby hd) hf (W := W) (by show 2 * 0 + _ ≤ _; omega) hl
  exact own_go stp (k _ ⟨X', hx, hZ, hby, hml, hown, eT', N, hsz, hlk⟩)
theorem own_getF (X : own_A l Z own cb ml n0 p e R s m args below meth c T h locs cells slots) {i : Nat} {a : Addr} {C f d : String} {v : Value} (w1 : (Jvm.Cond.fieldLink own i C f d).before a0 Z = true) (F : Fld Z h a C f d v)
    (hd : decode cb pc = .ok (.getfield i, 3)) (hp : pc + 3 = pc') (k : ∀ T', own_A l Z own cb ml n0 p e R s m args below meth c T' h locs cells slots → own_E p e below G (T'.setTop (mkF m pc' Ls (v :: S)))) : own_E p e below G (T.setTop (mkF m pc Ls (.ref a :: S))) := by
  obtain ⟨X, hx, hZ, hby, hml, hown, eT, N, hsz, hlk⟩ := X
  subst hp
  obtain ⟨T', X', eT', stp⟩ := getF X hx hZ hown (host := "") (Or.inl w1) Via.refl eT F (g := mkF m pc Ls (.ref a :: S)) rfl rfl (hb hby hd)
  exact own_go stp (k _ ⟨X', hx, hZ, hby, hml, hown, eT', N, hsz, hlk⟩)
theorem own_getS (X : own_A l Z own cb ml n0 p e R s m args below meth c T h locs cells slots) {i : Nat} {C f d : String} {v : Value} (w1 : (Jvm.Cond.fieldLink own i C f d).before a0 Z = true) (F : Sta Z h C f d v)
    (hd : decode cb pc = .ok (.getstatic i, 3)) (hp : pc + 3 = pc') (k : ∀ T', own_A l Z own cb ml n0 p e R s m args below meth c T' h locs cells slots → own_E p e below G (T'.setTop (mkF m pc' Ls (v :: S)))) : own_E p e below G (T.setTop (mkF m pc Ls S)) := by
  obtain ⟨X, hx, hZ, hby, hml, hown, eT, N, hsz, hlk⟩ := X
  subst hp
  obtain ⟨T', X', eT', stp⟩ := getS2 X hx hZ hown (host := "") (Or.inl w1) Via.refl eT F (g := mkF m pc Ls S) rfl (hb hby hd)
  exact own_go stp (k _ ⟨X', hx, hZ, hby, hml, hown, eT', N, hsz, hlk⟩)
theorem own_staK {C f d : String} {v : Value} (F : Sta Z h C f d v) (K : Keep h h' []) : Sta Z h' C f d v := by
  obtain ⟨cf, i, k, f', st, cell, h1, h2, h3, h4, h5, r⟩ := F
  exact ⟨cf, i, k, f', st, cell, h1, h2, h3, h4, K.2.1 _ _ h5 (fun q => nomatch q), r⟩
theorem own_putF (X : own_A l Z own cb ml n0 p e R s m args below meth c T h locs cells slots) {i kk : Nat} {a : Addr} {C f d : String} {v old : Value} {ty : FieldType} (w1 : (Jvm.Cond.fieldLink own i C f d).before a0 Z = true) (F : Fld Z h a C f d old) (E : Exa Z h a C) (L : (Jvm.Cond.lays C C f d).before a0 Z = true ∨ ((Jvm.Cond.laysFinal C C f d).before a0 Z = true ∧ own = C ∧ meth.name = "<init>")) (wi : (Jvm.Cond.instantiable C kk).before a0 Z = true)
    (hty : parseFieldDescriptor d = some ty) (hn : narrow ty v = v) (hft : fits ty v = true) (hg : n0 ≤ a) (hd : decode cb pc = .ok (.putfield i, 3)) (hp : pc + 3 = pc')
    (k : ∀ T' h' locs', own_A l Z own cb ml n0 p e R s m args below meth c T' h' locs' cells slots → Wr h h' a (Jvm.RoadKit.slotOf Z C f d) v → Fld Z h' a C f d v → own_E p e below G (T'.setTop (mkF m pc' Ls S))) : own_E p e below G (T.setTop (mkF m pc Ls (v :: .ref a :: S))) := by
  obtain ⟨X, hx, hZ, hby, hml, hown, eT, N, hsz, hlk⟩ := X
  subst hp
  obtain ⟨T', h', X', eT', W, stp⟩ := putF X hx hZ hown (host := "") (Or.inl w1) Via.refl eT F E L wi hty hn hft (g := mkF m pc Ls (v :: .ref a :: S)) rfl rfl (hb hby hd)
  exact own_go stp (k _ _ _ ⟨X', hx, hZ, hby, hml, hown, eT', Fr.snoc X' N hg, by rw [W.size]; exact hsz, hlk⟩ W (F.same W))
theorem own_putFN (X : own_A l Z own cb ml n0 p e R s m args below meth c T h locs cells slots) {i kk : Nat} {a : Addr} {C f d : String} {v v' old : Value} {ty : FieldType} (w1 : (Jvm.Cond.fieldLink own i C f d).before a0 Z = true) (F : Fld Z h a C f d old) (E : Exa Z h a C) (L : (Jvm.Cond.lays C C f d).before a0 Z = true ∨ ((Jvm.Cond.laysFinal C C f d).before a0 Z = true ∧ own = C ∧ meth.name = "<init>")) (wi : (Jvm.Cond.instantiable C kk).before a0 Z = true)
    (hty : parseFieldDescriptor d = some ty) (hn : narrow ty v = v') (hft : fits ty v' = true) (hg : n0 ≤ a) (hd : decode cb pc = .ok (.putfield i, 3)) (hp : pc + 3 = pc')
    (k : ∀ T' h' locs', own_A l Z own cb ml n0 p e R s m args below meth c T' h' locs' cells slots → Wr h h' a (Jvm.RoadKit.slotOf Z C f d) v' → Fld Z h' a C f d v' → own_E p e below G (T'.setTop (mkF m pc' Ls S))) : own_E p e below G (T.setTop (mkF m pc Ls (v :: .ref a :: S))) := by
  obtain ⟨X, hx, hZ, hby, hml, hown, eT, N, hsz, hlk⟩ := X
  subst hp
  obtain ⟨T', h', X', eT', W, stp⟩ := putFN X hx hZ hown w1 Via.refl eT F E L wi hty hn hft (g := mkF m pc Ls (v :: .ref a :: S)) rfl rfl (hb hby hd)
  exact own_go stp (k _ _ _ ⟨X', hx, hZ, hby, hml, hown, eT', Fr.snoc X' N hg, by rw [W.size]; exact hsz, hlk⟩ W (F.same W))
theorem own_new (X : own_A l Z own cb ml n0 p e R s m args below meth c T h locs cells slots) {i n : Nat} {C : String} (w1 : (Jvm.Cond.classLink own i C).before a0 Z = true) (w2 : (Jvm.Cond.instantiable C n).before a0 Z = true) (w3 : (Jvm.Cond.initialized C).before a0 Z = true) (hc : cells + 1 ≤ R.cells) (hs : slots + n ≤ R.slots)
    (hd : decode cb pc = .ok (.new i, 3)) (hp : pc + 3 = pc') (k : ∀ T' h' a, own_A l Z own cb ml n0 p e R s m args below meth c T' h' locs (cells + 1) (slots + n) → Ext h h' → h.size = a → n0 ≤ a → Exa Z h' a C → (∀ {O nm d : String} {ty : FieldType}, Laid Z a0 C O nm d → parseFieldDescriptor d = some ty → Fld Z h' a O nm d (defaultValue ty)) → own_E p e below G (T'.setTop (mkF m pc' Ls (.ref a :: S)))) : own_E p e below G (T.setTop (mkF m pc Ls S)) := by
  obtain ⟨X, hx, hZ, hby, hml, hown, eT, N, hsz, hlk⟩ := X
  subst hp
  obtain ⟨T', h', X', eT', E', A', D', -, stp⟩ := newO X hx hZ hown w1 w2 w3 eT (g := mkF m pc Ls S) rfl (hb hby hd) hc hs
  exact own_go stp (k _ _ _ ⟨X', hx, hZ, hby, hml, hown, eT', N, Nat.le_trans hsz E'.1, hlk⟩ E' rfl hsz A' D')
/-! arrays -/
def own_V (Z : State) (h : Heap) (a : Addr) (ty : FieldType) (z : Int32) (xs : List Int32) : Prop := ∃ k, Arv Z h a k ty z (xs.map Value.int) (.int 0) ∧ xs.length = z.toNatClampNeg
def own_W (Z : State) (h : Heap) (a : Addr) (z : Int32) (xs : List Int64) : Prop := ∃ k, Arv Z h a k .long z (xs.map Value.long) (.long 0) ∧ xs.length = z.toNatClampNeg
theorem own_V.ext {a : Addr} {ty : FieldType} {z : Int32} {xs : List Int32} (V : own_V Z h a ty z xs) (E : Ext h h') : own_V Z h' a ty z xs := by obtain ⟨k, A, q⟩ := V; exact ⟨k, A.ext E, q⟩
theorem own_W.ext {a : Addr} {z : Int32} {xs : List Int64} (V : own_W Z h a z xs) (E : Ext h h') : own_W Z h' a z xs := by obtain ⟨k, A, q⟩ := V; exact ⟨k, A.ext E, q⟩
theorem own_V.other {a b : Addr} {ty : FieldType} {z : Int32} {xs : List Int32} {sl : Nat} {v : Value} (V : own_V Z h a ty z xs) (W : Wr h h' b sl v) (q : a ≠ b) : own_V Z h' a ty z xs := by obtain ⟨k, A, r⟩ := V; exact ⟨k, A.other W q, r⟩
theorem own_W.other {a b : Addr} {z : Int32} {xs : List Int64} {sl : Nat} {v : Value} (V : own_W Z h a z xs) (W : Wr h h' b sl v) (q : a ≠ b) : own_W Z h' a z xs := by obtain ⟨k, A, r⟩ := V; exact ⟨k, A.other W q, r⟩
theorem own_V.keep {a : Addr} {ty : FieldType} {z : Int32} {xs : List Int32} {ws : List Addr} (V : own_V Z h a ty z xs) (K : Keep h h' ws) (q : a ∉ ws) : own_V Z h' a ty z xs := by obtain ⟨k, A, r⟩ := V; exact ⟨k, A.keep K q, r⟩
theorem own_W.keep {a : Addr} {z : Int32} {xs : List Int64} {ws : List Addr} (V : own_W Z h a z xs) (K : Keep h h' ws) (q : a ∉ ws) : own_W Z h' a z xs := by obtain ⟨k, A, r⟩ := V; exact ⟨k, A.keep K q, r⟩
theorem own_V.lt {a : Addr} {ty : FieldType} {z : Int32} {xs : List Int32} (V : own_V Z h a ty z xs) : a < h.size := by obtain ⟨k, A, r⟩ := V; exact A.lt
theorem own_W.lt {a : Addr} {z : Int32} {xs : List Int64} (V : own_W Z h a z xs) : a < h.size := by obtain ⟨k, A, r⟩ := V; exact A.lt
theorem own_V.len {a : Addr} {ty : FieldType} {z : Int32} {xs : List Int32} (V : own_V Z h a ty z xs) : xs.length = z.toNatClampNeg := by obtain ⟨k, A, r⟩ := V; exact r
theorem own_W.len {a : Addr} {z : Int32} {xs : List Int64} (V : own_W Z h a z xs) : xs.length = z.toNatClampNeg := by obtain ⟨k, A, r⟩ := V; exact r
theorem own_V.cast {a : Addr} {ty : FieldType} {z : Int32} {xs ys : List Int32} (V : own_V Z h a ty z xs) (q : xs = ys) : own_V Z h a ty z ys := q ▸ V
theorem own_W.cast {a : Addr} {z : Int32} {xs ys : List Int64} (V : own_W Z h a z xs) (q : xs = ys) : own_W Z h a z ys := q ▸ V
theorem own_cast (X : own_A l Z own cb ml n0 p e R s m args below meth c T h locs cells slots) {i : Nat} {a : Addr} {C : String} (w1 : (Jvm.Cond.classLink own i C).before a0 Z = true) (I : Ins Z h a C true)
    (hd : decode cb pc = .ok (.checkcast i, 3)) (hp : pc + 3 = pc') (k : ∀ T', own_A l Z own cb ml n0 p e R s m args below meth c T' h locs cells slots → own_E p e below G (T'.setTop (mkF m pc' Ls (.ref a :: S)))) : own_E p e below G (T.setTop (mkF m pc Ls (.ref a :: S))) := by
  obtain ⟨X, hx, hZ, hby, hml, hown, eT, N, hsz, hlk⟩ := X
  subst hp
  obtain ⟨T', X', eT', stp⟩ := castY X hx hZ hown w1 eT I (g := mkF m pc Ls (.ref a :: S)) rfl rfl (hb hby hd)
  exact own_go stp (k _ ⟨X', hx, hZ, hby, hml, hown, eT', N, hsz, hlk⟩)
theorem own_V.nn {a : Addr} {ty : FieldType} {z : Int32} {xs : List Int32} (V : own_V Z h a ty z xs) : ¬ z < 0 := by obtain ⟨k, ⟨cl, A, q1, q2, q3, r⟩, r'⟩ := V; exact q3
theorem own_idx {j z : Int32} {n : Nat} (q : n = z.toNatClampNeg) (h0 : ¬ j < 0) (h1 : j < z) : j.toNatClampNeg < n := by
  subst q
  rw [Int32.lt_iff_toInt_lt] at h0 h1
  have e0 : (0 : Int32).toInt = 0 := rfl
  simp only [Int32.toNatClampNeg]; omega
theorem own_mapI (xs : List Int32) (i : Nat) : (xs.map Value.int).getD i (.int 0) = .int (xs.getD i 0) := by
  simp only [List.getD_eq_getElem?_getD, List.getElem?_map]; cases xs[i]? <;> rfl
theorem own_mapL (xs : List Int64) (i : Nat) : (xs.map Value.long).getD i (.long 0) = .long (xs.getD i 0) := by
  simp only [List.getD_eq_getElem?_getD, List.getElem?_map]; cases xs[i]? <;> rfl
theorem own_newV (X : own_A l Z own cb ml n0 p e R s m args below meth c T h locs cells slots) {aty : ArrayType} {ty : FieldType} {n : Int32} (hty : newarray.typeOf aty = ty) (hdv : defaultValue ty = .int 0) (w : (Jvm.Cond.arrayClass ty).before a0 Z = true) (hn : ¬ n < 0) (cap : Nat) (hcap : n.toNatClampNeg ≤ cap) (hb8 : cap * 8 ≤ 536870912) (hc : cells + 1 ≤ R.cells) (hs : slots + cap ≤ R.slots)
    (hd : decode cb pc = .ok (.newarray aty, 2)) (hp : pc + 2 = pc') (k : ∀ T' h' a, own_A l Z own cb ml n0 p e R s m args below meth c T' h' locs (cells + 1) (slots + cap) → Ext h h' → h.size = a → n0 ≤ a → own_V Z h' a ty n (List.replicate n.toNatClampNeg 0) → own_E p e below G (T'.setTop (mkF m pc' Ls (.ref a :: S)))) : own_E p e below G (T.setTop (mkF m pc Ls (.int n :: S))) := by
  obtain ⟨X, hx, hZ, hby, hml, hown, eT, N, hsz, hlk⟩ := X
  subst hp; subst hty
  obtain ⟨T', h', cA, X', eT', E', A', stp⟩ := newP X hx hZ w eT (g := mkF m pc Ls (.int n :: S)) rfl (hb hby hd) rfl hn (cap := cap) hcap hb8 hc hs
  refine own_go stp (k _ _ _ ⟨X', hx, hZ, hby, hml, hown, eT', N, Nat.le_trans hsz E'.1, hlk⟩ E' rfl hsz ⟨cA, ?_, by simp⟩)
  have V := Arv.new A' hn
  rw [hdv] at V
  refine V.pad fun i => ?_
  rw [List.map_replicate]
  exact pad_rep [] (.int 0) n.toNatClampNeg i
theorem own_newW (X : own_A l Z own cb ml n0 p e R s m args below meth c T h locs cells slots) {n : Int32} (w : (Jvm.Cond.arrayClass .long).before a0 Z = true) (hn : ¬ n < 0) (cap : Nat) (hcap : n.toNatClampNeg ≤ cap) (hb8 : cap * 8 ≤ 536870912) (hc : cells + 1 ≤ R.cells) (hs : slots + cap ≤ R.slots)
    (hd : decode cb pc = .ok (.newarray .long, 2)) (hp : pc + 2 = pc') (k : ∀ T' h' a, own_A l Z own cb ml n0 p e R s m args below meth c T' h' locs (cells + 1) (slots + cap) → Ext h h' → h.size = a → n0 ≤ a → own_W Z h' a n (List.replicate n.toNatClampNeg 0) → own_E p e below G (T'.setTop (mkF m pc' Ls (.ref a :: S)))) : own_E p e below G (T.setTop (mkF m pc Ls (.int n :: S))) := by
  obtain ⟨X, hx, hZ, hby, hml, hown, eT, N, hsz, hlk⟩ := X
  subst hp
  obtain ⟨T', h', cA, X', eT', E', A', stp⟩ := newP X hx hZ (aty := .long) w eT (g := mkF m pc Ls (.int n :: S)) rfl (hb hby hd) rfl hn (cap := cap) hcap hb8 hc hs
  refine own_go stp (k _ _ _ ⟨X', hx, hZ, hby, hml, hown, eT', N, Nat.le_trans hsz E'.1, hlk⟩ E' rfl hsz ⟨cA, ?_, by simp⟩)
  have V := Arv.new A' hn
  refine V.pad fun i => ?_
  rw [List.map_replicate]
  exact pad_rep [] (.long 0) n.toNatClampNeg i
theorem own_bastore (X : own_A l Z own cb ml n0 p e R s m args below meth c T h locs cells slots) {a : Addr} {z j x y : Int32} {xs : List Int32} (V : own_V Z h a .byte z xs) (hg : n0 ≤ a) (hy : nar .byte x = y) (i : Nat) (hj : j.toNatClampNeg = i) (h0 : ¬ j < 0) (h1 : j < z)
    (hd : decode cb pc = .ok (.bastore, 1)) (hp : pc + 1 = pc') (k : ∀ T' h' locs', own_A l Z own cb ml n0 p e R s m args below meth c T' h' locs' cells slots → Wr h h' a j.toNatClampNeg (.int y) → own_V Z h' a .byte z (xs.set i y) → own_E p e below G (T'.setTop (mkF m pc' Ls S))) : own_E p e below G (T.setTop (mkF m pc Ls (.int x :: .int j :: .ref a :: S))) := by
  obtain ⟨X, hx, hZ, hby, hml, hown, eT, N, hsz, hlk⟩ := X
  obtain ⟨kc, ⟨cl, A, q1, q2, q3, H, F⟩, hlen⟩ := V
  subst hp; subst hy
  obtain ⟨T', h', X', eT', W, stp⟩ := stB X hx hZ eT A (j := j) (x := x) (inb_of q2 ⟨h0, h1⟩) (g := mkF m pc Ls (.int x :: .int j :: .ref a :: S)) rfl rfl (hb hby hd)
  refine own_go stp (k _ _ _ ⟨X', hx, hZ, hby, hml, hown, eT', Fr.snoc X' N hg, by rw [W.size]; exact hsz, hlk⟩ W ⟨kc, ?_, by rw [List.length_set]; exact hlen⟩)
  rw [List.map_set]
  exact Arv.set A q1 q2 q3 H F (fits_nar_byte _) W i hj (by rw [List.length_map, ← hj]; exact own_idx hlen h0 h1)
theorem own_iastore (X : own_A l Z own cb ml n0 p e R s m args below meth c T h locs cells slots) {a : Addr} {z j w x : Int32} {xs : List Int32} (V : own_V Z h a .int z xs) (hg : n0 ≤ a) (hy : w = x) (i : Nat) (hj : j.toNatClampNeg = i) (h0 : ¬ j < 0) (h1 : j < z)
    (hd : decode cb pc = .ok (.iastore, 1)) (hp : pc + 1 = pc') (k : ∀ T' h' locs', own_A l Z own cb ml n0 p e R s m args below meth c T' h' locs' cells slots → Wr h h' a j.toNatClampNeg (.int x) → own_V Z h' a .int z (xs.set i x) → own_E p e below G (T'.setTop (mkF m pc' Ls S))) : own_E p e below G (T.setTop (mkF m pc Ls (.int w :: .int j :: .ref a :: S))) := by
  obtain ⟨X, hx, hZ, hby, hml, hown, eT, N, hsz, hlk⟩ := X
  obtain ⟨kc, ⟨cl, A, q1, q2, q3, H, F⟩, hlen⟩ := V
  subst hp; subst hy
  obtain ⟨T', h', X', eT', W, stp⟩ := stI X hx hZ eT A (j := j) (x := w) (inb_of q2 ⟨h0, h1⟩) (g := mkF m pc Ls (.int w :: .int j :: .ref a :: S)) rfl rfl (hb hby hd)
  refine own_go stp (k _ _ _ ⟨X', hx, hZ, hby, hml, hown, eT', Fr.snoc X' N hg, by rw [W.size]; exact hsz, hlk⟩ W ⟨kc, ?_, by rw [List.length_set]; exact hlen⟩)
  rw [List.map_set]
  exact Arv.set A q1 q2 q3 H F rfl W i hj (by rw [List.length_map, ← hj]; exact own_idx hlen h0 h1)
theorem own_lastore (X : own_A l Z own cb ml n0 p e R s m args below meth c T h locs cells slots) {a : Addr} {z j : Int32} {w x : Int64} {xs : List Int64} (V : own_W Z h a z xs) (hg : n0 ≤ a) (hy : w = x) (i : Nat) (hj : j.toNatClampNeg = i) (h0 : ¬ j < 0) (h1 : j < z)
    (hd : decode cb pc = .ok (.lastore, 1)) (hp : pc + 1 = pc') (k : ∀ T' h' locs', own_A l Z own cb ml n0 p e R s m args below meth c T' h' locs' cells slots → Wr h h' a j.toNatClampNeg (.long x) → own_W Z h' a z (xs.set i x) → own_E p e below G (T'.setTop (mkF m pc' Ls S))) : own_E p e below G (T.setTop (mkF m pc Ls (.long w :: .int j :: .ref a :: S))) := by
  obtain ⟨X, hx, hZ, hby, hml, hown, eT, N, hsz, hlk⟩ := X
  obtain ⟨kc, ⟨cl, A, q1, q2, q3, H, F⟩, hlen⟩ := V
  subst hp; subst hy
  obtain ⟨T', h', X', eT', W, stp⟩ := stJ X hx hZ eT A (j := j) (x := w) (inb_of q2 ⟨h0, h1⟩) (g := mkF m pc Ls (.long w :: .int j :: .ref a :: S)) rfl rfl (hb hby hd)
  refine own_go stp (k _ _ _ ⟨X', hx, hZ, hby, hml, hown, eT', Fr.snoc X' N hg, by rw [W.size]; exact hsz, hlk⟩ W ⟨kc, ?_, by rw [List.length_set]; exact hlen⟩)
  rw [List.map_set]
  exact Arv.set A q1 q2 q3 H F rfl W i hj (by rw [List.length_map, ← hj]; exact own_idx hlen h0 h1)
theorem own_baload (X : own_A l Z own cb ml n0 p e R s m args below meth c T h locs cells slots) {a : Addr} {z j y : Int32} {xs : List Int32} (V : own_V Z h a .byte z xs) (h0 : ¬ j < 0) (h1 : j < z) (hy : xs.getD j.toNatClampNeg 0 = y) (hd : decode cb pc = .ok (.baload, 1)) (hp : pc + 1 = pc') (k : own_E p e below G (T.setTop (mkF m pc' Ls (.int y :: S)))) : own_E p e below G (T.setTop (mkF m pc Ls (.int j :: .ref a :: S))) := by
  obtain ⟨X, hx, hZ, hby, hml, hown, eT, N, hsz, hlk⟩ := X
  obtain ⟨kc, ⟨cl, A, q1, q2, q3, H, F⟩, hlen⟩ := V
  subst hp
  have hin := inb_of q2 (j := j) ⟨h0, h1⟩
  exact own_go (X.baloadBytes hx (j := j) (v := .int y) (by rw [eT]; exact A.1) (State.isArrayOf_alike hZ.alike A.2.1) A.2.2 hin (H.at hin (by rw [own_mapI, hy])) (g := mkF m pc Ls (.int j :: .ref a :: S)) rfl rfl (hb hby hd)) k
theorem own_iaload (X : own_A l Z own cb ml n0 p e R s m args below meth c T h locs cells slots) {a : Addr} {z j y : Int32} {xs : List Int32} (V : own_V Z h a .int z xs) (h0 : ¬ j < 0) (h1 : j < z) (hy : xs.getD j.toNatClampNeg 0 = y) (hd : decode cb pc = .ok (.iaload, 1)) (hp : pc + 1 = pc') (k : own_E p e below G (T.setTop (mkF m pc' Ls (.int y :: S)))) : own_E p e below G (T.setTop (mkF m pc Ls (.int j :: .ref a :: S))) := by
  obtain ⟨X, hx, hZ, hby, hml, hown, eT, N, hsz, hlk⟩ := X
  obtain ⟨kc, ⟨cl, A, q1, q2, q3, H, F⟩, hlen⟩ := V
  subst hp
  have hin := inb_of q2 (j := j) ⟨h0, h1⟩
  exact own_go (X.iaload hx (j := j) (v := .int y) (by rw [eT]; exact A.1) (State.isArrayOf_alike hZ.alike A.2.1) A.2.2 hin (H.at hin (by rw [own_mapI, hy])) (g := mkF m pc Ls (.int j :: .ref a :: S)) rfl rfl (hb hby hd)) k
theorem own_laload (X : own_A l Z own cb ml n0 p e R s m args below meth c T h locs cells slots) {a : Addr} {z j : Int32} {y : Int64} {xs : List Int64} (V : own_W Z h a z xs) (h0 : ¬ j < 0) (h1 : j < z) (hy : xs.getD j.toNatClampNeg 0 = y) (hd : decode cb pc = .ok (.laload, 1)) (hp : pc + 1 = pc') (k : own_E p e below G (T.setTop (mkF m pc' Ls (.long y :: S)))) : own_E p e below G (T.setTop (mkF m pc Ls (.int j :: .ref a :: S))) := by
  obtain ⟨X, hx, hZ, hby, hml, hown, eT, N, hsz, hlk⟩ := X
  obtain ⟨kc, ⟨cl, A, q1, q2, q3, H, F⟩, hlen⟩ := V
  subst hp
  have hin := inb_of q2 (j := j) ⟨h0, h1⟩
  exact own_go (X.laload hx (j := j) (v := .long y) (by rw [eT]; exact A.1) (State.isArrayOf_alike hZ.alike A.2.1) A.2.2 hin (H.at hin (by rw [own_mapL, hy])) (g := mkF m pc Ls (.int j :: .ref a :: S)) rfl rfl (hb hby hd)) k
theorem own_alen (X : own_A l Z own cb ml n0 p e R s m args below meth c T h locs cells slots) {a : Addr} {z : Int32} {ty : FieldType} {xs : List Int32} (V : own_V Z h a ty z xs) (hd : decode cb pc = .ok (.arraylength, 1)) (hp : pc + 1 = pc') (k : own_E p e below G (T.setTop (mkF m pc' Ls (.int z :: S)))) : own_E p e below G (T.setTop (mkF m pc Ls (.ref a :: S))) := by
  obtain ⟨X, hx, hZ, hby, hml, hown, eT, N, hsz, hlk⟩ := X
  obtain ⟨kc, ⟨cl, A, q1, q2, q3, H, F⟩, hlen⟩ := V
  subst hp
  refine own_go (X.arraylength hx (by rw [eT]; exact A.1) (State.isArrayOf_alike hZ.alike A.2.1) (g := mkF m pc Ls (.ref a :: S)) rfl rfl (hb hby hd)) ?_
  rw [len_of q2 q3]; exact k
end OwnKit
/-! OWN NUMBERS -/
theorem own_adL {a b : Int64} (h1 : -9223372036854775808 ≤ a.toInt + b.toInt) (h2 : a.toInt + b.toInt < 9223372036854775808) : (a + b).toInt = a.toInt + b.toInt := by
  rw [Int64.toInt_add]; exact Int.bmod_eq_of_le_mul_two (by omega) (by omega)
theorem own_sbL {a b : Int64} (h1 : -9223372036854775808 ≤ a.toInt - b.toInt) (h2 : a.toInt - b.toInt < 9223372036854775808) : (a - b).toInt = a.toInt - b.toInt := by
  rw [Int64.toInt_sub]; exact Int.bmod_eq_of_le_mul_two (by omega) (by omega)
theorem own_mlL {a b : Int64} (h1 : -9223372036854775808 ≤ a.toInt * b.toInt) (h2 : a.toInt * b.toInt < 9223372036854775808) : (a * b).toInt = a.toInt * b.toInt := by
  rw [Int64.toInt_mul]; exact Int.bmod_eq_of_le_mul_two (by omega) (by omega)
theorem own_ad {a b : Int32} (h1 : -2147483648 ≤ a.toInt + b.toInt) (h2 : a.toInt + b.toInt < 2147483648) : (a + b).toInt = a.toInt + b.toInt := by
  rw [Int32.toInt_add]; exact Int.bmod_eq_of_le_mul_two (by omega) (by omega)
theorem own_sb {a b : Int32} (h1 : -2147483648 ≤ a.toInt - b.toInt) (h2 : a.toInt - b.toInt < 2147483648) : (a - b).toInt = a.toInt - b.toInt := by
  rw [Int32.toInt_sub]; exact Int.bmod_eq_of_le_mul_two (by omega) (by omega)
theorem own_ml {a b : Int32} (h1 : -2147483648 ≤ a.toInt * b.toInt) (h2 : a.toInt * b.toInt < 2147483648) : (a * b).toInt = a.toInt * b.toInt := by
  rw [Int32.toInt_mul]; exact Int.bmod_eq_of_le_mul_two (by omega) (by omega)
theorem own_dvL {a b : Int64} (h0 : 0 ≤ a.toInt) (h1 : 0 < b.toInt) : (a / b).toInt = a.toInt / b.toInt := by
  rw [Int64.toInt_div, Int.tdiv_eq_ediv_of_nonneg h0]
  have := Int64.toInt_lt a
  have h2 : a.toInt / b.toInt ≤ a.toInt := Int.ediv_le_self _ h0
  have h3 : 0 ≤ a.toInt / b.toInt := Int.ediv_nonneg h0 (by omega)
  exact Int.bmod_eq_of_le_mul_two (by omega) (by omega)
theorem own_dv {a b : Int32} (h0 : 0 ≤ a.toInt) (h1 : 0 < b.toInt) : (a / b).toInt = a.toInt / b.toInt := by
  rw [Int32.toInt_div, Int.tdiv_eq_ediv_of_nonneg h0]
  have := Int32.toInt_lt a
  have h2 : a.toInt / b.toInt ≤ a.toInt := Int.ediv_le_self _ h0
  have h3 : 0 ≤ a.toInt / b.toInt := Int.ediv_nonneg h0 (by omega)
  exact Int.bmod_eq_of_le_mul_two (by omega) (by omega)
theorem own_rmL {a b : Int64} (h0 : 0 ≤ a.toInt) : (a % b).toInt = a.toInt % b.toInt := by
  rw [Int64.toInt_mod, Int.tmod_eq_emod_of_nonneg h0]
theorem own_rm {a b : Int32} (h0 : 0 ≤ a.toInt) : (a % b).toInt = a.toInt % b.toInt := by
  rw [Int32.toInt_mod, Int.tmod_eq_emod_of_nonneg h0]
theorem own_ltL {a b : Int64} : a < b ↔ a.toInt < b.toInt := Int64.lt_iff_toInt_lt
theorem own_lt {a b : Int32} : a < b ↔ a.toInt < b.toInt := Int32.lt_iff_toInt_lt
theorem own_eqL {a b : Int64} : a = b ↔ a.toInt = b.toInt := Int64.toInt_inj.symm
theorem own_eq {a b : Int32} : a = b ↔ a.toInt = b.toInt := Int32.toInt_inj.symm
theorem own_mkL {a b : Int64} {k : Nat} (hk : k < 64) (hb : b.toBitVec.toNat = 2 ^ k - 1) : (a &&& b).toInt = a.toInt % (2 ^ k : Nat) := by
  have e : (a &&& b).toBitVec.toNat = a.toBitVec.toNat % 2 ^ k := by rw [Int64.toBitVec_and, BitVec.toNat_and, hb, Nat.and_two_pow_sub_one_eq_mod]
  have hlt : a.toBitVec.toNat % 2 ^ k < 2 ^ 63 := Nat.lt_of_lt_of_le (Nat.mod_lt _ (Nat.two_pow_pos k)) (Nat.pow_le_pow_right (by decide) (by omega))
  have e2 : (a &&& b).toInt = ((a.toBitVec.toNat % 2 ^ k : Nat) : Int) := by
    show (a &&& b).toBitVec.toInt = _
    rw [BitVec.toInt_eq_toNat_cond, e, if_pos (by omega)]
  rw [e2]
  show _ = a.toBitVec.toInt % _
  rw [BitVec.toInt_eq_toNat_cond]
  have hd : ((2 ^ 64 : Nat) : Int) % ((2 ^ k : Nat) : Int) = 0 := by
    rw [← Int.natCast_emod, Nat.mod_eq_zero_of_dvd (Nat.pow_dvd_pow 2 (by omega))]; rfl
  split
  · rw [Int.natCast_emod]
  · rw [Int.sub_emod, hd, Int.sub_zero, Int.emod_emod_of_dvd _ (Int.dvd_refl _), Int.natCast_emod]
theorem own_mk {a b : Int32} {k : Nat} (hk : k < 32) (hb : b.toBitVec.toNat = 2 ^ k - 1) : (a &&& b).toInt = a.toInt % (2 ^ k : Nat) := by
  have e : (a &&& b).toBitVec.toNat = a.toBitVec.toNat % 2 ^ k := by rw [Int32.toBitVec_and, BitVec.toNat_and, hb, Nat.and_two_pow_sub_one_eq_mod]
  have hlt : a.toBitVec.toNat % 2 ^ k < 2 ^ 31 := Nat.lt_of_lt_of_le (Nat.mod_lt _ (Nat.two_pow_pos k)) (Nat.pow_le_pow_right (by decide) (by omega))
  have e2 : (a &&& b).toInt = ((a.toBitVec.toNat % 2 ^ k : Nat) : Int) := by
    show (a &&& b).toBitVec.toInt = _
    rw [BitVec.toInt_eq_toNat_cond, e, if_pos (by omega)]
  rw [e2]
  show _ = a.toBitVec.toInt % _
  rw [BitVec.toInt_eq_toNat_cond]
  have hd : ((2 ^ 32 : Nat) : Int) % ((2 ^ k : Nat) : Int) = 0 := by
    rw [← Int.natCast_emod, Nat.mod_eq_zero_of_dvd (Nat.pow_dvd_pow 2 (by omega))]; rfl
  split
  · rw [Int.natCast_emod]
  · rw [Int.sub_emod, hd, Int.sub_zero, Int.emod_emod_of_dvd _ (Int.dvd_refl _), Int.natCast_emod]
theorem own_AL {a b : Int64} {x y : Int} (ha : a.toInt = x) (hb : b.toInt = y) (h1 : -9223372036854775808 ≤ x + y) (h2 : x + y < 9223372036854775808) : (a + b).toInt = x + y := by subst ha hb; exact own_adL h1 h2
theorem own_SL {a b : Int64} {x y : Int} (ha : a.toInt = x) (hb : b.toInt = y) (h1 : -9223372036854775808 ≤ x - y) (h2 : x - y < 9223372036854775808) : (a - b).toInt = x - y := by subst ha hb; exact own_sbL h1 h2
theorem own_ML {a b : Int64} {x y : Int} (ha : a.toInt = x) (hb : b.toInt = y) (h1 : -9223372036854775808 ≤ x * y) (h2 : x * y < 9223372036854775808) : (a * b).toInt = x * y := by subst ha hb; exact own_mlL h1 h2
theorem own_DL {a b : Int64} {x y : Int} (ha : a.toInt = x) (hb : b.toInt = y) (h1 : 0 ≤ x) (h2 : 0 < y) : (a / b).toInt = x / y := by subst ha hb; exact own_dvL h1 h2
theorem own_RL {a b : Int64} {x y : Int} (ha : a.toInt = x) (hb : b.toInt = y) (h1 : 0 ≤ x) : (a % b).toInt = x % y := by subst ha hb; exact own_rmL h1
theorem own_AI {a b : Int32} {x y : Int} (ha : a.toInt = x) (hb : b.toInt = y) (h1 : -2147483648 ≤ x + y) (h2 : x + y < 2147483648) : (a + b).toInt = x + y := by subst ha hb; exact own_ad h1 h2
theorem own_SI {a b : Int32} {x y : Int} (ha : a.toInt = x) (hb : b.toInt = y) (h1 : -2147483648 ≤ x - y) (h2 : x - y < 2147483648) : (a - b).toInt = x - y := by subst ha hb; exact own_sb h1 h2
theorem own_MI {a b : Int32} {x y : Int} (ha : a.toInt = x) (hb : b.toInt = y) (h1 : -2147483648 ≤ x * y) (h2 : x * y < 2147483648) : (a * b).toInt = x * y := by subst ha hb; exact own_ml h1 h2
theorem own_DI {a b : Int32} {x y : Int} (ha : a.toInt = x) (hb : b.toInt = y) (h1 : 0 ≤ x) (h2 : 0 < y) : (a / b).toInt = x / y := by subst ha hb; exact own_dv h1 h2
theorem own_RI {a b : Int32} {x y : Int} (ha : a.toInt = x) (hb : b.toInt = y) (h1 : 0 ≤ x) : (a % b).toInt = x % y := by subst ha hb; exact own_rm h1
theorem own_pos {z : Int32} (h : ¬ z < 0) (h1 : ¬ z = 0) : (0 : Int32) < z := by
  have e0 : (0 : Int32).toInt = 0 := rfl
  rw [own_lt] at *; rw [own_eq] at h1; omega
theorem own_last {z : Int32} (h : (0 : Int32) < z) : ¬ z - 1 < 0 ∧ z - 1 < z := by
  have e0 : (0 : Int32).toInt = 0 := rfl
  have e1 : (1 : Int32).toInt = 1 := rfl
  have hl := Int32.toInt_lt z
  rw [own_lt] at h
  have a : (z - 1).toInt = z.toInt - 1 := own_SI rfl e1 (by omega) (by omega)
  rw [own_lt, own_lt]; omega
theorem own_gs {α : Type} (l : List α) (i j : Nat) (v d : α) (hi : i < l.length) : (l.set i v).getD j d = if i = j then v else l.getD j d := by
  simp only [List.getD_eq_getElem?_getD]
  by_cases h : i = j
  · subst h; rw [if_pos rfl, List.getElem?_set_self hi]; rfl
  · rw [if_neg h, List.getElem?_set_ne h]
theorem own_cl {n : Int32} {k : Int} (h : n.toInt = k) : n.toNatClampNeg = k.toNat := by subst h; rfl
theorem own_b8 {t : Int32} (h0 : -128 ≤ t.toInt) (h1 : t.toInt < 128) : t.toInt8.toInt32 = t := by
  rw [own_eq, Int8.toInt_toInt32, Int32.toInt_toInt8]
  exact Int.bmod_eq_of_le_mul_two (by omega) (by omega)
theorem own_i8 {t : Int32} {x : Int} (h : t.toInt = x) : (t.toInt8.toInt32).toInt = (x + 128) % 256 - 128 := by
  subst h
  rw [Int8.toInt_toInt32, Int32.toInt_toInt8, Int.bmod_def]
  split <;> omega
theorem own_shrI {a b : Int32} {x : Int} {k : Nat} (h : a.toInt = x) (hb : (b.toBitVec.smod (BitVec.ofNat 32 32)).toNat = k) : (a >>> b).toInt = x / (2 ^ k : Nat) := by
  subst h; subst hb
  show (a.toBitVec.sshiftRight' (b.toBitVec.smod (BitVec.ofNat 32 32))).toInt = _
  rw [BitVec.toInt_sshiftRight', Int.shiftRight_eq_div_pow]; rfl
theorem own_shlI {a b : Int32} {x : Int} {k : Nat} (h : a.toInt = x) (hb : (b.toBitVec.smod (BitVec.ofNat 32 32)).toNat = k) (h1 : -2147483648 ≤ x * (2 ^ k : Nat)) (h2 : x * (2 ^ k : Nat) < 2147483648) : (a <<< b).toInt = x * (2 ^ k : Nat) := by
  subst h; subst hb
  show (a.toBitVec <<< (b.toBitVec.smod (BitVec.ofNat 32 32))).toInt = a.toBitVec.toInt * _
  rw [BitVec.shiftLeft_eq', BitVec.toInt_shiftLeft, Nat.shiftLeft_eq, BitVec.toInt_eq_toNat_bmod]
  rw [show ((a.toBitVec.toNat * 2 ^ (b.toBitVec.smod (BitVec.ofNat 32 32)).toNat : Nat) : Int) = (a.toBitVec.toNat : Int) * ((2 ^ (b.toBitVec.smod (BitVec.ofNat 32 32)).toNat : Nat) : Int) from by simp]
  rw [← Int.bmod_mul_bmod]
  have e : ((a.toBitVec.toNat : Int).bmod (2 ^ 32)) = a.toInt := (BitVec.toInt_eq_toNat_bmod _).symm
  rw [e]
  exact Int.bmod_eq_of_le_mul_two (by omega) (by omega)
theorem own_orI {a b : Int32} {x y : Int} (k : Nat) (ha : a.toInt = x) (hb : b.toInt = y) (hk : k ≤ 31) (hx : x % (2 ^ k : Nat) = 0) (h0 : 0 ≤ y) (h1 : y < (2 ^ k : Nat)) (h2 : 0 ≤ x) : (a ||| b).toInt = x + y := by
  have la := a.toBitVec.isLt; have lb := b.toBitVec.isLt
  have na : (a.toBitVec.toNat : Int) = x := by
    have : a.toBitVec.toInt = x := ha
    rw [BitVec.toInt_eq_toNat_cond] at this; split at this <;> omega
  have nb : (b.toBitVec.toNat : Int) = y := by
    have : b.toBitVec.toInt = y := hb
    rw [BitVec.toInt_eq_toNat_cond] at this; split at this <;> omega
  have hm : a.toBitVec.toNat % 2 ^ k = 0 := by
    have : ((a.toBitVec.toNat % 2 ^ k : Nat) : Int) = 0 := by rw [Int.natCast_emod, na]; exact hx
    omega
  have hl : b.toBitVec.toNat < 2 ^ k := by omega
  have ho : a.toBitVec.toNat ||| b.toBitVec.toNat = a.toBitVec.toNat + b.toBitVec.toNat := by
    have hd : a.toBitVec.toNat = 2 ^ k * (a.toBitVec.toNat / 2 ^ k) := by
      have := Nat.div_add_mod a.toBitVec.toNat (2 ^ k); omega
    rw [hd, Nat.two_pow_add_eq_or_of_lt hl]
  have q : (a ||| b).toBitVec.toNat = a.toBitVec.toNat + b.toBitVec.toNat := by rw [Int32.toBitVec_or, BitVec.toNat_or, ho]
  have hA : a.toBitVec.toNat < 2 ^ 31 := by
    have : a.toBitVec.toInt = x := ha
    rw [BitVec.toInt_eq_toNat_cond] at this; split at this <;> omega
  have hB : b.toBitVec.toNat < 2 ^ 31 := by
    have : b.toBitVec.toInt = y := hb
    rw [BitVec.toInt_eq_toNat_cond] at this; split at this <;> omega
  have hS : a.toBitVec.toNat + b.toBitVec.toNat < 2 ^ 31 := by rw [← ho]; exact Nat.or_lt_two_pow hA hB
  show (a ||| b).toBitVec.toInt = _
  rw [BitVec.toInt_eq_toNat_cond, q, if_pos (by omega)]
  omega
theorem own_yes {c : Prop} [d : Decidable c] {a b r : Int32} (h : c) (h2 : a = r) : (if c then a else b) = r := (if_pos h).trans h2
theorem own_no {c : Prop} [d : Decidable c] {a b r : Int32} (h : ¬ c) (h2 : b = r) : (if c then a else b) = r := (if_neg h).trans h2
theorem own_d7_0 : decode jdk_30_method_1_code 0 = .ok (.aload_n 0, 1) := by decide +kernel
theorem own_d7_1 : decode jdk_30_method_1_code 1 = .ok (.invokespecial 1, 3) := by decide +kernel
theorem own_d7_4 : decode jdk_30_method_1_code 4 = .ok (.return_, 1) := by decide +kernel
theorem own_ef7 (a1 : Addr) (m : MethodId) : entryFrame m #[(.ref a1)] 1 = mkF m 0 #[.val (.ref a1)] [] := by first | (simp [entryFrame, mkF, argsToLocals, Value.category]; done) | rfl
theorem own_pf7 : plainFor (⟨"java/lang/Record", "<init>", "()V"⟩ : MethodName) = true := by first | exact plainFor_of_name (by first | (simp [plainName, overriddenIn]; done) | decide +kernel) | decide +kernel
set_option maxRecDepth 65536 in
set_option maxHeartbeats 40000000 in
theorem own_rm7 (l : Launch) (Z : State) (a0 : Array Value) (hw : ∀ d ∈ tables_1, d.before a0 Z = true) (a1 : Addr) (h0 : Heap) (n0 : Nat) (Z0 : n0 ≤ h0.size) :
    own_Con l Z (⟨"java/lang/Record", "<init>", "()V"⟩ : MethodName) jdk_30_method_1_code 1 none ({ frames := 1, cells := 0, slots := 0, locals := 12 } : Room) #[(.ref a1)] h0 n0 (fun v h => v = none ∧ h = h0) := by
  refine own_enter own_pf7 Z0 (own_ef7 a1) ?_
  intro p e s m below meth c T0 X0 hret hnm
  refine own_aloadN X0 own_d7_0 (pc' := 1) rfl (v := (.ref a1)) rfl rfl ?_
  refine own_initO X0 (hw _ (List.mem_of_getElem? (i := 37) rfl)) (hw _ (List.mem_of_getElem? (i := 20) rfl)) (hw _ (List.mem_of_getElem? (i := 21) rfl)) rfl (by decide) 0 (Nat.le_of_eq rfl) (by decide) own_d7_1 (pc' := 4) rfl fun T1 X2 => ?_
  refine own_vret X2 hret own_d7_4 (by decide) (by decide) ?_
  exact ⟨rfl, rfl⟩
theorem own_d2_0 : decode jdk_43_method_3_code 0 = .ok (.iload_n 0, 1) := by decide +kernel
theorem own_d2_1 : decode jdk_43_method_3_code 1 = .ok (.sipush 255, 3) := by decide +kernel
theorem own_d2_4 : decode jdk_43_method_3_code 4 = .ok (.if_icmp .gt 7, 3) := by decide +kernel
theorem own_d2_7 : decode jdk_43_method_3_code 7 = .ok (.iconst 1, 1) := by decide +kernel
theorem own_d2_8 : decode jdk_43_method_3_code 8 = .ok (.goto 4, 3) := by decide +kernel
theorem own_d2_11 : decode jdk_43_method_3_code 11 = .ok (.iconst 0, 1) := by decide +kernel
theorem own_d2_12 : decode jdk_43_method_3_code 12 = .ok (.ireturn, 1) := by decide +kernel
theorem own_ef2 (p1 : Int32) (m : MethodId) : entryFrame m #[(.int p1)] 1 = mkF m 0 #[.val (.int p1)] [] := by first | (simp [entryFrame, mkF, argsToLocals, Value.category]; done) | rfl
theorem own_pf2 : plainFor (⟨"java/lang/StringLatin1", "canEncode", "(C)Z"⟩ : MethodName) = true := by first | exact plainFor_of_name (by first | (simp [plainName, overriddenIn]; done) | decide +kernel) | decide +kernel
def own_F2 (p1 : Int32) : Int32 := (if (255 : Int32) < p1 then (0 : Int32) else (1 : Int32))
set_option maxRecDepth 65536 in
set_option maxHeartbeats 40000000 in
theorem own_rm2 (l : Launch) (Z : State) (a0 : Array Value) (hw : ∀ d ∈ tables_1, d.before a0 Z = true) (p1 : Int32) (h0 : Heap) (n0 : Nat) (Z0 : n0 ≤ h0.size) :
    own_Con l Z (⟨"java/lang/StringLatin1", "canEncode", "(C)Z"⟩ : MethodName) jdk_43_method_3_code 1 (some .boolean) ({ frames := 0, cells := 0, slots := 0, locals := 0 } : Room) #[(.int p1)] h0 n0 (fun v h => v = some (.int (own_F2 p1)) ∧ h = h0) := by
  refine own_enter own_pf2 Z0 (own_ef2 p1) ?_
  intro p e s m below meth c T0 X0 hret hnm
  refine own_iloadN X0 own_d2_0 (pc' := 1) rfl (v := p1) rfl ?_
  refine own_sipush X0 own_d2_1 (pc' := 4) rfl (z := (255 : Int32)) rfl ?_
  by_cases hc1 : (255 : Int32) < p1
  · refine own_icmpY X0 own_d2_4 (tlt hc1).2.2.1 (by decide) (pc' := 11) rfl ?_
    refine own_iconst X0 own_d2_11 (pc' := 12) rfl (z := (0 : Int32)) rfl ?_
    refine own_iret X0 (t := .boolean) (w := (0 : Int32)) hret (by simp) own_d2_12 rfl (by decide) (by decide) ?_
    exact ⟨congrArg (fun t => some (Value.int t)) (show (0 : Int32) = own_F2 p1 from (by rw [own_F2, if_pos hc1])), rfl⟩
  · refine own_icmpN X0 own_d2_4 (flt hc1).2.2.1 (pc' := 7) rfl ?_
    refine own_iconst X0 own_d2_7 (pc' := 8) rfl (z := (1 : Int32)) rfl ?_
    refine own_goto X0 own_d2_8 (by decide) (pc' := 12) rfl ?_
    refine own_iret X0 (t := .boolean) (w := (1 : Int32)) hret (by simp) own_d2_12 rfl (by decide) (by decide) ?_
    exact ⟨congrArg (fun t => some (Value.int t)) (show (1 : Int32) = own_F2 p1 from (by rw [own_F2, if_neg hc1])), rfl⟩
theorem own_d3_0 : decode jdk_43_method_46_code 0 = .ok (.iconst 1, 1) := by decide +kernel
theorem own_d3_1 : decode jdk_43_method_46_code 1 = .ok (.newarray .byte, 2) := by decide +kernel
theorem own_d3_3 : decode jdk_43_method_46_code 3 = .ok (.dup, 1) := by decide +kernel
theorem own_d3_4 : decode jdk_43_method_46_code 4 = .ok (.iconst 0, 1) := by decide +kernel
theorem own_d3_5 : decode jdk_43_method_46_code 5 = .ok (.iload_n 0, 1) := by decide +kernel
theorem own_d3_6 : decode jdk_43_method_46_code 6 = .ok (.i2b, 1) := by decide +kernel
theorem own_d3_7 : decode jdk_43_method_46_code 7 = .ok (.bastore, 1) := by decide +kernel
theorem own_d3_8 : decode jdk_43_method_46_code 8 = .ok (.areturn, 1) := by decide +kernel
theorem own_ef3 (p1 : Int32) (m : MethodId) : entryFrame m #[(.int p1)] 1 = mkF m 0 #[.val (.int p1)] [] := by first | (simp [entryFrame, mkF, argsToLocals, Value.category]; done) | rfl
theorem own_pf3 : plainFor (⟨"java/lang/StringLatin1", "toBytes", "(C)[B"⟩ : MethodName) = true := by first | exact plainFor_of_name (by first | (simp [plainName, overriddenIn]; done) | decide +kernel) | decide +kernel
set_option maxRecDepth 65536 in
set_option maxHeartbeats 40000000 in
theorem own_rm3 (l : Launch) (Z : State) (a0 : Array Value) (hw : ∀ d ∈ tables_1, d.before a0 Z = true) (p1 : Int32) (h0 : Heap) (n0 : Nat) (Z0 : n0 ≤ h0.size) :
    own_Con l Z (⟨"java/lang/StringLatin1", "toBytes", "(C)[B"⟩ : MethodName) jdk_43_method_46_code 1 (some (.array .byte)) ({ frames := 0, cells := 1, slots := 1, locals := 0 } : Room) #[(.int p1)] h0 n0 (fun v h => ∃ b, v = some (.ref b) ∧ n0 ≤ b ∧ h0.size ≤ b ∧ Keep h0 h [] ∧ own_V Z h b .byte (1 : Int32) [(p1.toInt8.toInt32)]) := by
  refine own_enter own_pf3 Z0 (own_ef3 p1) ?_
  intro p e s m below meth c T0 X0 hret hnm
  refine own_iconst X0 own_d3_0 (pc' := 1) rfl (z := (1 : Int32)) rfl ?_
  refine own_newV X0 rfl rfl (hw _ (List.mem_of_getElem? (i := 14) rfl)) (by decide) 1 (by decide) (by decide) (by decide) (by decide) own_d3_1 (pc' := 3) rfl fun T2 h3 b1 X4 Ex5 hs6 g7 V8 => ?_
  have sz9 : h0.size ≤ b1 := Nat.le_trans (Keep.refl h0 []).1 (Nat.le_of_eq hs6)
  replace V8 : own_V Z h3 b1 .byte (1 : Int32) [(0 : Int32)] := V8
  have K10 := Keep.ext (Keep.refl h0 []) Ex5
  refine own_dup X4 own_d3_3 (pc' := 4) rfl rfl ?_
  refine own_iconst X4 own_d3_4 (pc' := 5) rfl (z := (0 : Int32)) rfl ?_
  refine own_iloadN X4 own_d3_5 (pc' := 6) rfl (v := p1) rfl ?_
  refine own_i2b X4 own_d3_6 (pc' := 7) rfl (z := (p1.toInt8.toInt32)) rfl ?_
  refine own_bastore X4 V8 g7 (y := (p1.toInt8.toInt32)) (own_nb _) 0 rfl (by decide) (by decide) own_d3_7 (pc' := 8) rfl fun T11 h12 lc14 X13 W15 V16 => ?_
  replace V16 : own_V Z h12 b1 .byte (1 : Int32) [(p1.toInt8.toInt32)] := V16
  have K17 := Keep.wr K10 W15 (Or.inr sz9)
  refine own_aret X13 (t := (.array .byte)) hret rfl rfl rfl own_d3_8 (by decide) (by decide) ?_
  exact ⟨b1, rfl, g7, sz9, K17, V16⟩
theorem own_d4_0 : decode jdk_42_method_151_code 0 = .ok (.aload_n 0, 1) := by decide +kernel
theorem own_d4_1 : decode jdk_42_method_151_code 1 = .ok (.invokespecial 1, 3) := by decide +kernel
theorem own_d4_4 : decode jdk_42_method_151_code 4 = .ok (.aload_n 0, 1) := by decide +kernel
theorem own_d4_5 : decode jdk_42_method_151_code 5 = .ok (.aload_n 1, 1) := by decide +kernel
theorem own_d4_6 : decode jdk_42_method_151_code 6 = .ok (.putfield 9, 3) := by decide +kernel
theorem own_d4_9 : decode jdk_42_method_151_code 9 = .ok (.aload_n 0, 1) := by decide +kernel
theorem own_d4_10 : decode jdk_42_method_151_code 10 = .ok (.iload_n 2, 1) := by decide +kernel
theorem own_d4_11 : decode jdk_42_method_151_code 11 = .ok (.putfield 15, 3) := by decide +kernel
theorem own_d4_14 : decode jdk_42_method_151_code 14 = .ok (.return_, 1) := by decide +kernel
theorem own_ef4 (a1 : Addr) (a2 : Addr) (p3 : Int32) (m : MethodId) : entryFrame m #[(.ref a1), (.ref a2), (.int p3)] 3 = mkF m 0 #[.val (.ref a1), .val (.ref a2), .val (.int p3)] [] := by first | (simp [entryFrame, mkF, argsToLocals, Value.category]; done) | rfl
theorem own_pf4 : plainFor (⟨"java/lang/String", "<init>", "([BB)V"⟩ : MethodName) = true := by first | exact plainFor_of_name (by first | (simp [plainName, overriddenIn]; done) | decide +kernel) | decide +kernel
set_option maxRecDepth 65536 in
set_option maxHeartbeats 40000000 in
theorem own_rm4 (l : Launch) (Z : State) (a0 : Array Value) (hw : ∀ d ∈ tables_1, d.before a0 Z = true) (a1 : Addr) (a2 : Addr) (p3 : Int32) (h0 : Heap) (n0 : Nat) (Z0 : n0 ≤ h0.size) (E_a1 : Exa Z h0 a1 "java/lang/String") (F_value_a1 : Fld Z h0 a1 "java/lang/String" "value" "[B" .null) (F_coder_a1 : Fld Z h0 a1 "java/lang/String" "coder" "B" (.int (0 : Int32))) (g_a1 : n0 ≤ a1) :
    own_Con l Z (⟨"java/lang/String", "<init>", "([BB)V"⟩ : MethodName) jdk_42_method_151_code 3 none ({ frames := 1, cells := 0, slots := 0, locals := 12 } : Room) #[(.ref a1), (.ref a2), (.int p3)] h0 n0 (fun v h => v = none ∧ Keep h0 h [a1] ∧ Fld Z h a1 "java/lang/String" "coder" "B" (.int (p3.toInt8.toInt32)) ∧ Fld Z h a1 "java/lang/String" "value" "[B" (.ref a2)) := by
  refine own_enter own_pf4 Z0 (own_ef4 a1 a2 p3) ?_
  intro p e s m below meth c T0 X0 hret hnm
  refine own_aloadN X0 own_d4_0 (pc' := 1) rfl (v := (.ref a1)) rfl rfl ?_
  refine own_initO X0 (hw _ (List.mem_of_getElem? (i := 19) rfl)) (hw _ (List.mem_of_getElem? (i := 20) rfl)) (hw _ (List.mem_of_getElem? (i := 21) rfl)) rfl (by decide) 0 (Nat.le_of_eq rfl) (by decide) own_d4_1 (pc' := 4) rfl fun T1 X2 => ?_
  refine own_aloadN X2 own_d4_4 (pc' := 5) rfl (v := (.ref a1)) rfl rfl ?_
  refine own_aloadN X2 own_d4_5 (pc' := 6) rfl (v := (.ref a2)) rfl rfl ?_
  refine own_putF X2 (hw _ (List.mem_of_getElem? (i := 22) rfl)) F_value_a1 E_a1 (Or.inr ⟨(hw _ (List.mem_of_getElem? (i := 23) rfl)), rfl, hnm⟩) (hw _ (List.mem_of_getElem? (i := 10) rfl)) (ty := (.array .byte)) (by decide) rfl rfl g_a1 own_d4_6 (pc' := 9) rfl fun T3 h4 lc6 X5 W7 F8 => ?_
  have A9 := Exa.wr W7 E_a1
  have F10 := Fld.other W7 F_coder_a1 (Or.inr (slot_ne (Or.inr (hw _ (List.mem_of_getElem? (i := 25) rfl))) (Or.inr (hw _ (List.mem_of_getElem? (i := 23) rfl))) (by decide) (t := .byte) (t' := (.array .byte)) (by decide) (by decide)))
  have K11 := Keep.wr (Keep.refl h0 [a1]) W7 (Or.inl (List.mem_of_getElem? (i := 0) rfl))
  refine own_aloadN X5 own_d4_9 (pc' := 10) rfl (v := (.ref a1)) rfl rfl ?_
  refine own_iloadN X5 own_d4_10 (pc' := 11) rfl (v := p3) rfl ?_
  refine own_putFN X5 (v' := (.int (p3.toInt8.toInt32))) (hw _ (List.mem_of_getElem? (i := 24) rfl)) F10 A9 (Or.inr ⟨(hw _ (List.mem_of_getElem? (i := 25) rfl)), rfl, hnm⟩) (hw _ (List.mem_of_getElem? (i := 10) rfl)) (ty := .byte) (by decide) rfl (fits_nar_byte _) g_a1 own_d4_11 (pc' := 14) rfl fun T12 h13 lc15 X14 W16 F17 => ?_
  have A18 := Exa.wr W16 A9
  have F19 := Fld.other W16 F8 (Or.inr (slot_ne (Or.inr (hw _ (List.mem_of_getElem? (i := 23) rfl))) (Or.inr (hw _ (List.mem_of_getElem? (i := 25) rfl))) (by decide) (t := (.array .byte)) (t' := .byte) (by decide) (by decide)))
  have K20 := Keep.wr K11 W16 (Or.inl (List.mem_of_getElem? (i := 0) rfl))
  refine own_vret X14 hret own_d4_14 (by decide) (by decide) ?_
  exact ⟨rfl, K20, F17, F19⟩
theorem own_pd0 : parseMethodDescriptor "(C)Z" = some ⟨[.char], some .boolean⟩ := by decide +kernel
theorem own_pd1 : parseMethodDescriptor "(C)[B" = some ⟨[.char], some (.array .byte)⟩ := by decide +kernel
theorem own_pd2 : parseMethodDescriptor "([BB)V" = some ⟨[(.array .byte), .byte], none⟩ := by decide +kernel
theorem own_d1_0 : decode jdk_42_method_139_code 0 = .ok (.getstatic 38, 3) := by decide +kernel
theorem own_d1_3 : decode jdk_42_method_139_code 3 = .ok (.ifCond .eq 23, 3) := by decide +kernel
theorem own_d1_6 : decode jdk_42_method_139_code 6 = .ok (.iload_n 0, 1) := by decide +kernel
theorem own_d1_7 : decode jdk_42_method_139_code 7 = .ok (.invokestatic 1015, 3) := by decide +kernel
theorem own_d1_10 : decode jdk_42_method_139_code 10 = .ok (.ifCond .eq 16, 3) := by decide +kernel
theorem own_d1_13 : decode jdk_42_method_139_code 13 = .ok (.new 10, 3) := by decide +kernel
theorem own_d1_16 : decode jdk_42_method_139_code 16 = .ok (.dup, 1) := by decide +kernel
theorem own_d1_17 : decode jdk_42_method_139_code 17 = .ok (.iload_n 0, 1) := by decide +kernel
theorem own_d1_18 : decode jdk_42_method_139_code 18 = .ok (.invokestatic 1018, 3) := by decide +kernel
theorem own_d1_21 : decode jdk_42_method_139_code 21 = .ok (.iconst 0, 1) := by decide +kernel
theorem own_d1_22 : decode jdk_42_method_139_code 22 = .ok (.invokespecial 209, 3) := by decide +kernel
theorem own_d1_25 : decode jdk_42_method_139_code 25 = .ok (.areturn, 1) := by decide +kernel
theorem own_ef1 (p1 : Int32) (m : MethodId) : entryFrame m #[(.int p1)] 1 = mkF m 0 #[.val (.int p1)] [] := by first | (simp [entryFrame, mkF, argsToLocals, Value.category]; done) | rfl
theorem own_pf1 : plainFor (⟨"java/lang/String", "valueOf", "(C)Ljava/lang/String;"⟩ : MethodName) = true := by first | exact plainFor_of_name (by first | (simp [plainName, overriddenIn]; done) | decide +kernel) | decide +kernel
theorem own_ce {p : Int32} (h : ¬ (255 : Int32) < p) : ¬ own_F2 p = (0 : Int32) := by rw [own_F2, if_neg h]; decide
set_option maxRecDepth 65536 in
set_option maxHeartbeats 40000000 in
theorem own_rm1 (l : Launch) (Z : State) (a0 : Array Value) (hw : ∀ d ∈ tables_1, d.before a0 Z = true) (p1 : Int32) (w0 : Int32) (h0 : Heap) (n0 : Nat) (Z0 : n0 ≤ h0.size) (S_COMPACT_STRINGS : Sta Z h0 "java/lang/String" "COMPACT_STRINGS" "Z" (.int w0)) (hc : ¬ w0 = (0 : Int32)) (hp : ¬ (255 : Int32) < p1) :
    own_Con l Z (⟨"java/lang/String", "valueOf", "(C)Ljava/lang/String;"⟩ : MethodName) jdk_42_method_139_code 1 (some (.object "java/lang/String")) ({ frames := 2, cells := 2, slots := 5, locals := 27 } : Room) #[(.int p1)] h0 n0 (fun v h => ∃ b, v = some (.ref b) ∧ n0 ≤ b ∧ h0.size ≤ b ∧ Keep h0 h [] ∧ Exa Z h b "java/lang/String") := by
  refine own_enter own_pf1 Z0 (own_ef1 p1) ?_
  intro p e s m below meth c T0 X0 hret hnm
  refine own_getS X0 (hw _ (List.mem_of_getElem? (i := 4) rfl)) S_COMPACT_STRINGS own_d1_0 (pc' := 3) rfl fun T1 X2 => ?_
  have hk3 : ¬ (w0 = (0 : Int32)) := hc
  refine own_ifN X2 own_d1_3 (feq hk3).1 (pc' := 6) rfl ?_
  refine own_iloadN X2 own_d1_6 (pc' := 7) rfl (v := p1) rfl ?_
  refine own_callS X2 (argsL := [(.int p1)]) (S := []) (own_rm2 l Z a0 hw p1 h0 n0 X2.2.2.2.2.2.2.2.2.1 ) (hw _ (List.mem_of_getElem? (i := 5) rfl)) (hw _ (List.mem_of_getElem? (i := 6) rfl)) (hw _ (List.mem_of_getElem? (i := 7) rfl)) (hw _ (List.mem_of_getElem? (i := 8) rfl)) (by decide) (by decide) 0 (by decide) rfl own_pd0 rfl rfl (Nat.le_of_eq rfl) (by decide) (by decide) own_d1_7 (pc' := 10) rfl fun T4 h5 lc6 r7 X8 Q9 => ?_
  obtain ⟨rfl, e10⟩ := Q9
  replace e10 := e10.symm
  subst e10
  show own_E p e below _ (T4.setTop (mkF m 10 #[.val (.int p1)] [(.int (own_F2 p1))]))
  have hk11 : ¬ ((own_F2 p1) = (0 : Int32)) := own_ce hp
  refine own_ifN X8 own_d1_10 (feq hk11).1 (pc' := 13) rfl ?_
  refine own_new X8 (hw _ (List.mem_of_getElem? (i := 9) rfl)) (hw _ (List.mem_of_getElem? (i := 10) rfl)) (hw _ (List.mem_of_getElem? (i := 2) rfl)) (by decide) (by decide) own_d1_13 (pc' := 16) rfl fun T13 h14 b12 X15 Ex16 hs17 g18 A19 D20 => ?_
  have sz21 : h0.size ≤ b12 := Nat.le_trans (Keep.refl h0 []).1 (Nat.le_of_eq hs17)
  have S22 := Sta.ext Ex16 S_COMPACT_STRINGS
  have F23 : Fld Z h14 b12 "java/lang/String" "value" "[B" .null := D20 (Or.inr (hw _ (List.mem_of_getElem? (i := 23) rfl))) (ty := (.array .byte)) (by decide)
  have F24 : Fld Z h14 b12 "java/lang/String" "coder" "B" (.int (0 : Int32)) := D20 (Or.inr (hw _ (List.mem_of_getElem? (i := 25) rfl))) (ty := .byte) (by decide)
  have K25 := Keep.ext (Keep.refl h0 []) Ex16
  refine own_dup X15 own_d1_16 (pc' := 17) rfl rfl ?_
  refine own_iloadN X15 own_d1_17 (pc' := 18) rfl (v := p1) rfl ?_
  refine own_callS X15 (argsL := [(.int p1)]) (S := [(.ref b12), (.ref b12)]) (own_rm3 l Z a0 hw p1 h14 n0 X15.2.2.2.2.2.2.2.2.1 ) (hw _ (List.mem_of_getElem? (i := 11) rfl)) (hw _ (List.mem_of_getElem? (i := 12) rfl)) (hw _ (List.mem_of_getElem? (i := 7) rfl)) (hw _ (List.mem_of_getElem? (i := 13) rfl)) (by decide) (by decide) 2 (by decide) rfl own_pd1 rfl rfl (Nat.le_of_eq rfl) (by decide) (by decide) own_d1_18 (pc' := 21) rfl fun T26 h27 lc28 r29 X30 Q31 => ?_
  obtain ⟨b32, rfl, g33, sz34, K35, A36⟩ := Q31
  have ne37 : b12 ≠ b32 := Nat.ne_of_lt (Nat.lt_of_lt_of_le A19.lt sz34)
  have sz38 : h0.size ≤ b32 := Nat.le_trans K25.1 sz34
  have S39 := own_staK S22 K35
  have A40 := Exa.keep A19 K35
  have F41 := Fld.keep F23 K35 nin0
  have F42 := Fld.keep F24 K35 nin0
  have K43 := Keep.trans K25 K35 all0
  show own_E p e below _ (T26.setTop (mkF m 21 #[.val (.int p1)] [(.ref b32), (.ref b12), (.ref b12)]))
  refine own_iconst X30 own_d1_21 (pc' := 22) rfl (z := (0 : Int32)) rfl ?_
  refine own_callI X30 (a := b12) (argsL := [(.ref b32), (.int (0 : Int32))]) (S := [(.ref b12)]) (own_rm4 l Z a0 hw b12 b32 (0 : Int32) h27 n0 X30.2.2.2.2.2.2.2.2.1 A40 F41 F42 g18) rfl (hw _ (List.mem_of_getElem? (i := 15) rfl)) (hw _ (List.mem_of_getElem? (i := 16) rfl)) (hw _ (List.mem_of_getElem? (i := 2) rfl)) (hw _ (List.mem_of_getElem? (i := 18) rfl)) (by decide) (by decide) 1 (by decide) rfl own_pd2 rfl rfl (Nat.le_of_eq rfl) (by decide) (by decide) own_d1_22 (pc' := 25) rfl fun T44 h45 lc46 r47 X48 Q49 => ?_
  obtain ⟨rfl, K50, F51, F52⟩ := Q49
  have V53 := A36.keep K50 (ninS (Ne.symm ne37) nin0)
  have A54 := Exa.keep A40 K50
  have K55 := Keep.trans K43 K50 (allS (Or.inr sz21) all0)
  show own_E p e below _ (T44.setTop (mkF m 25 #[.val (.int p1)] [(.ref b12)]))
  refine own_aret X48 (t := (.object "java/lang/String")) hret rfl rfl rfl own_d1_25 (by decide) (by decide) ?_
  exact ⟨b12, rfl, g18, sz21, K55, A54⟩
theorem own_pd3 : parseMethodDescriptor "()V" = some ⟨[], none⟩ := by decide +kernel
theorem own_d6_0 : decode prog_39_method_1_code 0 = .ok (.aload_n 0, 1) := by decide +kernel
theorem own_d6_1 : decode prog_39_method_1_code 1 = .ok (.invokespecial 1, 3) := by decide +kernel
theorem own_d6_4 : decode prog_39_method_1_code 4 = .ok (.aload_n 0, 1) := by decide +kernel
theorem own_d6_5 : decode prog_39_method_1_code 5 = .ok (.lload_n 1, 1) := by decide +kernel
theorem own_d6_6 : decode prog_39_method_1_code 6 = .ok (.putfield 7, 3) := by decide +kernel
theorem own_d6_9 : decode prog_39_method_1_code 9 = .ok (.aload_n 0, 1) := by decide +kernel
theorem own_d6_10 : decode prog_39_method_1_code 10 = .ok (.aload_n 3, 1) := by decide +kernel
theorem own_d6_11 : decode prog_39_method_1_code 11 = .ok (.putfield 13, 3) := by decide +kernel
theorem own_d6_14 : decode prog_39_method_1_code 14 = .ok (.aload_n 0, 1) := by decide +kernel
theorem own_d6_15 : decode prog_39_method_1_code 15 = .ok (.aload 4, 2) := by decide +kernel
theorem own_d6_17 : decode prog_39_method_1_code 17 = .ok (.putfield 17, 3) := by decide +kernel
theorem own_d6_20 : decode prog_39_method_1_code 20 = .ok (.aload_n 0, 1) := by decide +kernel
theorem own_d6_21 : decode prog_39_method_1_code 21 = .ok (.aload 5, 2) := by decide +kernel
theorem own_d6_23 : decode prog_39_method_1_code 23 = .ok (.putfield 20, 3) := by decide +kernel
theorem own_d6_26 : decode prog_39_method_1_code 26 = .ok (.aload_n 0, 1) := by decide +kernel
theorem own_d6_27 : decode prog_39_method_1_code 27 = .ok (.aload 6, 2) := by decide +kernel
theorem own_d6_29 : decode prog_39_method_1_code 29 = .ok (.putfield 23, 3) := by decide +kernel
theorem own_d6_32 : decode prog_39_method_1_code 32 = .ok (.aload_n 0, 1) := by decide +kernel
theorem own_d6_33 : decode prog_39_method_1_code 33 = .ok (.iload 7, 2) := by decide +kernel
theorem own_d6_35 : decode prog_39_method_1_code 35 = .ok (.putfield 26, 3) := by decide +kernel
theorem own_d6_38 : decode prog_39_method_1_code 38 = .ok (.aload_n 0, 1) := by decide +kernel
theorem own_d6_39 : decode prog_39_method_1_code 39 = .ok (.lload 8, 2) := by decide +kernel
theorem own_d6_41 : decode prog_39_method_1_code 41 = .ok (.putfield 30, 3) := by decide +kernel
theorem own_d6_44 : decode prog_39_method_1_code 44 = .ok (.return_, 1) := by decide +kernel
theorem own_ef6 (a1 : Addr) (q2 : Int64) (a3 : Addr) (a4 : Addr) (a5 : Addr) (a6 : Addr) (p7 : Int32) (q8 : Int64) (m : MethodId) : entryFrame m #[(.ref a1), (.long q2), (.ref a3), (.ref a4), (.ref a5), (.ref a6), (.int p7), (.long q8)] 10 = mkF m 0 #[.val (.ref a1), .val (.long q2), .second, .val (.ref a3), .val (.ref a4), .val (.ref a5), .val (.ref a6), .val (.int p7), .val (.long q8), .second] [] := by first | (simp [entryFrame, mkF, argsToLocals, Value.category]; done) | rfl
theorem own_pf6 : plainFor (⟨"com/example/moratuwa/moratuwa/replay/Exchange", "<init>", "(JLjava/lang/String;Ljava/lang/String;Ljava/lang/String;Ljava/lang/String;IJ)V"⟩ : MethodName) = true := by first | exact plainFor_of_name (by first | (simp [plainName, overriddenIn]; done) | decide +kernel) | decide +kernel
set_option maxRecDepth 65536 in
set_option maxHeartbeats 40000000 in
theorem own_rm6 (l : Launch) (Z : State) (a0 : Array Value) (hw : ∀ d ∈ tables_1, d.before a0 Z = true) (a1 : Addr) (q2 : Int64) (a3 : Addr) (a4 : Addr) (a5 : Addr) (a6 : Addr) (p7 : Int32) (q8 : Int64) (h0 : Heap) (n0 : Nat) (Z0 : n0 ≤ h0.size) (E_a1 : Exa Z h0 a1 "com/example/moratuwa/moratuwa/replay/Exchange") (F_sentMicros_a1 : Fld Z h0 a1 "com/example/moratuwa/moratuwa/replay/Exchange" "sentMicros" "J" (.long (0 : Int64))) (F_target_a1 : Fld Z h0 a1 "com/example/moratuwa/moratuwa/replay/Exchange" "target" "Ljava/lang/String;" .null) (F_client_a1 : Fld Z h0 a1 "com/example/moratuwa/moratuwa/replay/Exchange" "client" "Ljava/lang/String;" .null) (F_method_a1 : Fld Z h0 a1 "com/example/moratuwa/moratuwa/replay/Exchange" "method" "Ljava/lang/String;" .null) (F_path_a1 : Fld Z h0 a1 "com/example/moratuwa/moratuwa/replay/Exchange" "path" "Ljava/lang/String;" .null) (F_status_a1 : Fld Z h0 a1 "com/example/moratuwa/moratuwa/replay/Exchange" "status" "I" (.int (0 : Int32))) (F_latencyMicros_a1 : Fld Z h0 a1 "com/example/moratuwa/moratuwa/replay/Exchange" "latencyMicros" "J" (.long (0 : Int64))) (g_a1 : n0 ≤ a1) :
    own_Con l Z (⟨"com/example/moratuwa/moratuwa/replay/Exchange", "<init>", "(JLjava/lang/String;Ljava/lang/String;Ljava/lang/String;Ljava/lang/String;IJ)V"⟩ : MethodName) prog_39_method_1_code 10 none ({ frames := 2, cells := 0, slots := 0, locals := 24 } : Room) #[(.ref a1), (.long q2), (.ref a3), (.ref a4), (.ref a5), (.ref a6), (.int p7), (.long q8)] h0 n0 (fun v h => v = none ∧ Keep h0 h [a1] ∧ Fld Z h a1 "com/example/moratuwa/moratuwa/replay/Exchange" "client" "Ljava/lang/String;" (.ref a4) ∧ Fld Z h a1 "com/example/moratuwa/moratuwa/replay/Exchange" "latencyMicros" "J" (.long q8) ∧ Fld Z h a1 "com/example/moratuwa/moratuwa/replay/Exchange" "method" "Ljava/lang/String;" (.ref a5) ∧ Fld Z h a1 "com/example/moratuwa/moratuwa/replay/Exchange" "path" "Ljava/lang/String;" (.ref a6) ∧ Fld Z h a1 "com/example/moratuwa/moratuwa/replay/Exchange" "sentMicros" "J" (.long q2) ∧ Fld Z h a1 "com/example/moratuwa/moratuwa/replay/Exchange" "status" "I" (.int p7) ∧ Fld Z h a1 "com/example/moratuwa/moratuwa/replay/Exchange" "target" "Ljava/lang/String;" (.ref a3)) := by
  refine own_enter own_pf6 Z0 (own_ef6 a1 q2 a3 a4 a5 a6 p7 q8) ?_
  intro p e s m below meth c T0 X0 hret hnm
  refine own_aloadN X0 own_d6_0 (pc' := 1) rfl (v := (.ref a1)) rfl rfl ?_
  refine own_callI X0 (a := a1) (argsL := []) (S := []) (own_rm7 l Z a0 hw a1 h0 n0 X0.2.2.2.2.2.2.2.2.1 ) rfl (hw _ (List.mem_of_getElem? (i := 32) rfl)) (hw _ (List.mem_of_getElem? (i := 33) rfl)) (hw _ (List.mem_of_getElem? (i := 35) rfl)) (hw _ (List.mem_of_getElem? (i := 36) rfl)) (by decide) (by decide) 0 (by decide) rfl own_pd3 rfl rfl (Nat.le_of_eq rfl) (by decide) (by decide) own_d6_1 (pc' := 4) rfl fun T1 h2 lc3 r4 X5 Q6 => ?_
  obtain ⟨rfl, e7⟩ := Q6
  replace e7 := e7.symm
  subst e7
  show own_E p e below _ (T1.setTop (mkF m 4 #[.val (.ref a1), .val (.long q2), .second, .val (.ref a3), .val (.ref a4), .val (.ref a5), .val (.ref a6), .val (.int p7), .val (.long q8), .second] []))
  refine own_aloadN X5 own_d6_4 (pc' := 5) rfl (v := (.ref a1)) rfl rfl ?_
  refine own_lloadN X5 own_d6_5 (pc' := 6) rfl (v := q2) rfl ?_
  refine own_putF X5 (hw _ (List.mem_of_getElem? (i := 38) rfl)) F_sentMicros_a1 E_a1 (Or.inr ⟨(hw _ (List.mem_of_getElem? (i := 39) rfl)), rfl, hnm⟩) (hw _ (List.mem_of_getElem? (i := 27) rfl)) (ty := .long) (by decide) rfl rfl g_a1 own_d6_6 (pc' := 9) rfl fun T8 h9 lc11 X10 W12 F13 => ?_
  have A14 := Exa.wr W12 E_a1
  have F15 := Fld.other W12 F_target_a1 (Or.inr (slot_ne (Or.inr (hw _ (List.mem_of_getElem? (i := 41) rfl))) (Or.inr (hw _ (List.mem_of_getElem? (i := 39) rfl))) (by decide) (t := (.object "java/lang/String")) (t' := .long) (by decide) (by decide)))
  have F16 := Fld.other W12 F_client_a1 (Or.inr (slot_ne (Or.inr (hw _ (List.mem_of_getElem? (i := 43) rfl))) (Or.inr (hw _ (List.mem_of_getElem? (i := 39) rfl))) (by decide) (t := (.object "java/lang/String")) (t' := .long) (by decide) (by decide)))
  have F17 := Fld.other W12 F_method_a1 (Or.inr (slot_ne (Or.inr (hw _ (List.mem_of_getElem? (i := 45) rfl))) (Or.inr (hw _ (List.mem_of_getElem? (i := 39) rfl))) (by decide) (t := (.object "java/lang/String")) (t' := .long) (by decide) (by decide)))
  have F18 := Fld.other W12 F_path_a1 (Or.inr (slot_ne (Or.inr (hw _ (List.mem_of_getElem? (i := 47) rfl))) (Or.inr (hw _ (List.mem_of_getElem? (i := 39) rfl))) (by decide) (t := (.object "java/lang/String")) (t' := .long) (by decide) (by decide)))
  have F19 := Fld.other W12 F_status_a1 (Or.inr (slot_ne (Or.inr (hw _ (List.mem_of_getElem? (i := 49) rfl))) (Or.inr (hw _ (List.mem_of_getElem? (i := 39) rfl))) (by decide) (t := .int) (t' := .long) (by decide) (by decide)))
  have F20 := Fld.other W12 F_latencyMicros_a1 (Or.inr (slot_ne (Or.inr (hw _ (List.mem_of_getElem? (i := 51) rfl))) (Or.inr (hw _ (List.mem_of_getElem? (i := 39) rfl))) (by decide) (t := .long) (t' := .long) (by decide) (by decide)))
  have K21 := Keep.wr (Keep.refl h0 [a1]) W12 (Or.inl (List.mem_of_getElem? (i := 0) rfl))
  refine own_aloadN X10 own_d6_9 (pc' := 10) rfl (v := (.ref a1)) rfl rfl ?_
  refine own_aloadN X10 own_d6_10 (pc' := 11) rfl (v := (.ref a3)) rfl rfl ?_
  refine own_putF X10 (hw _ (List.mem_of_getElem? (i := 40) rfl)) F15 A14 (Or.inr ⟨(hw _ (List.mem_of_getElem? (i := 41) rfl)), rfl, hnm⟩) (hw _ (List.mem_of_getElem? (i := 27) rfl)) (ty := (.object "java/lang/String")) (by decide) rfl rfl g_a1 own_d6_11 (pc' := 14) rfl fun T22 h23 lc25 X24 W26 F27 => ?_
  have A28 := Exa.wr W26 A14
  have F29 := Fld.other W26 F13 (Or.inr (slot_ne (Or.inr (hw _ (List.mem_of_getElem? (i := 39) rfl))) (Or.inr (hw _ (List.mem_of_getElem? (i := 41) rfl))) (by decide) (t := .long) (t' := (.object "java/lang/String")) (by decide) (by decide)))
  have F30 := Fld.other W26 F16 (Or.inr (slot_ne (Or.inr (hw _ (List.mem_of_getElem? (i := 43) rfl))) (Or.inr (hw _ (List.mem_of_getElem? (i := 41) rfl))) (by decide) (t := (.object "java/lang/String")) (t' := (.object "java/lang/String")) (by decide) (by decide)))
  have F31 := Fld.other W26 F17 (Or.inr (slot_ne (Or.inr (hw _ (List.mem_of_getElem? (i := 45) rfl))) (Or.inr (hw _ (List.mem_of_getElem? (i := 41) rfl))) (by decide) (t := (.object "java/lang/String")) (t' := (.object "java/lang/String")) (by decide) (by decide)))
  have F32 := Fld.other W26 F18 (Or.inr (slot_ne (Or.inr (hw _ (List.mem_of_getElem? (i := 47) rfl))) (Or.inr (hw _ (List.mem_of_getElem? (i := 41) rfl))) (by decide) (t := (.object "java/lang/String")) (t' := (.object "java/lang/String")) (by decide) (by decide)))
  have F33 := Fld.other W26 F19 (Or.inr (slot_ne (Or.inr (hw _ (List.mem_of_getElem? (i := 49) rfl))) (Or.inr (hw _ (List.mem_of_getElem? (i := 41) rfl))) (by decide) (t := .int) (t' := (.object "java/lang/String")) (by decide) (by decide)))
  have F34 := Fld.other W26 F20 (Or.inr (slot_ne (Or.inr (hw _ (List.mem_of_getElem? (i := 51) rfl))) (Or.inr (hw _ (List.mem_of_getElem? (i := 41) rfl))) (by decide) (t := .long) (t' := (.object "java/lang/String")) (by decide) (by decide)))
  have K35 := Keep.wr K21 W26 (Or.inl (List.mem_of_getElem? (i := 0) rfl))
  refine own_aloadN X24 own_d6_14 (pc' := 15) rfl (v := (.ref a1)) rfl rfl ?_
  refine own_aload X24 own_d6_15 (pc' := 17) rfl (v := (.ref a4)) rfl rfl ?_
  refine own_putF X24 (hw _ (List.mem_of_getElem? (i := 42) rfl)) F30 A28 (Or.inr ⟨(hw _ (List.mem_of_getElem? (i := 43) rfl)), rfl, hnm⟩) (hw _ (List.mem_of_getElem? (i := 27) rfl)) (ty := (.object "java/lang/String")) (by decide) rfl rfl g_a1 own_d6_17 (pc' := 20) rfl fun T36 h37 lc39 X38 W40 F41 => ?_
  have A42 := Exa.wr W40 A28
  have F43 := Fld.other W40 F29 (Or.inr (slot_ne (Or.inr (hw _ (List.mem_of_getElem? (i := 39) rfl))) (Or.inr (hw _ (List.mem_of_getElem? (i := 43) rfl))) (by decide) (t := .long) (t' := (.object "java/lang/String")) (by decide) (by decide)))
  have F44 := Fld.other W40 F27 (Or.inr (slot_ne (Or.inr (hw _ (List.mem_of_getElem? (i := 41) rfl))) (Or.inr (hw _ (List.mem_of_getElem? (i := 43) rfl))) (by decide) (t := (.object "java/lang/String")) (t' := (.object "java/lang/String")) (by decide) (by decide)))
  have F45 := Fld.other W40 F31 (Or.inr (slot_ne (Or.inr (hw _ (List.mem_of_getElem? (i := 45) rfl))) (Or.inr (hw _ (List.mem_of_getElem? (i := 43) rfl))) (by decide) (t := (.object "java/lang/String")) (t' := (.object "java/lang/String")) (by decide) (by decide)))
  have F46 := Fld.other W40 F32 (Or.inr (slot_ne (Or.inr (hw _ (List.mem_of_getElem? (i := 47) rfl))) (Or.inr (hw _ (List.mem_of_getElem? (i := 43) rfl))) (by decide) (t := (.object "java/lang/String")) (t' := (.object "java/lang/String")) (by decide) (by decide)))
  have F47 := Fld.other W40 F33 (Or.inr (slot_ne (Or.inr (hw _ (List.mem_of_getElem? (i := 49) rfl))) (Or.inr (hw _ (List.mem_of_getElem? (i := 43) rfl))) (by decide) (t := .int) (t' := (.object "java/lang/String")) (by decide) (by decide)))
  have F48 := Fld.other W40 F34 (Or.inr (slot_ne (Or.inr (hw _ (List.mem_of_getElem? (i := 51) rfl))) (Or.inr (hw _ (List.mem_of_getElem? (i := 43) rfl))) (by decide) (t := .long) (t' := (.object "java/lang/String")) (by decide) (by decide)))
  have K49 := Keep.wr K35 W40 (Or.inl (List.mem_of_getElem? (i := 0) rfl))
  refine own_aloadN X38 own_d6_20 (pc' := 21) rfl (v := (.ref a1)) rfl rfl ?_
  refine own_aload X38 own_d6_21 (pc' := 23) rfl (v := (.ref a5)) rfl rfl ?_
  refine own_putF X38 (hw _ (List.mem_of_getElem? (i := 44) rfl)) F45 A42 (Or.inr ⟨(hw _ (List.mem_of_getElem? (i := 45) rfl)), rfl, hnm⟩) (hw _ (List.mem_of_getElem? (i := 27) rfl)) (ty := (.object "java/lang/String")) (by decide) rfl rfl g_a1 own_d6_23 (pc' := 26) rfl fun T50 h51 lc53 X52 W54 F55 => ?_
  have A56 := Exa.wr W54 A42
  have F57 := Fld.other W54 F43 (Or.inr (slot_ne (Or.inr (hw _ (List.mem_of_getElem? (i := 39) rfl))) (Or.inr (hw _ (List.mem_of_getElem? (i := 45) rfl))) (by decide) (t := .long) (t' := (.object "java/lang/String")) (by decide) (by decide)))
  have F58 := Fld.other W54 F44 (Or.inr (slot_ne (Or.inr (hw _ (List.mem_of_getElem? (i := 41) rfl))) (Or.inr (hw _ (List.mem_of_getElem? (i := 45) rfl))) (by decide) (t := (.object "java/lang/String")) (t' := (.object "java/lang/String")) (by decide) (by decide)))
  have F59 := Fld.other W54 F41 (Or.inr (slot_ne (Or.inr (hw _ (List.mem_of_getElem? (i := 43) rfl))) (Or.inr (hw _ (List.mem_of_getElem? (i := 45) rfl))) (by decide) (t := (.object "java/lang/String")) (t' := (.object "java/lang/String")) (by decide) (by decide)))
  have F60 := Fld.other W54 F46 (Or.inr (slot_ne (Or.inr (hw _ (List.mem_of_getElem? (i := 47) rfl))) (Or.inr (hw _ (List.mem_of_getElem? (i := 45) rfl))) (by decide) (t := (.object "java/lang/String")) (t' := (.object "java/lang/String")) (by decide) (by decide)))
  have F61 := Fld.other W54 F47 (Or.inr (slot_ne (Or.inr (hw _ (List.mem_of_getElem? (i := 49) rfl))) (Or.inr (hw _ (List.mem_of_getElem? (i := 45) rfl))) (by decide) (t := .int) (t' := (.object "java/lang/String")) (by decide) (by decide)))
  have F62 := Fld.other W54 F48 (Or.inr (slot_ne (Or.inr (hw _ (List.mem_of_getElem? (i := 51) rfl))) (Or.inr (hw _ (List.mem_of_getElem? (i := 45) rfl))) (by decide) (t := .long) (t' := (.object "java/lang/String")) (by decide) (by decide)))
  have K63 := Keep.wr K49 W54 (Or.inl (List.mem_of_getElem? (i := 0) rfl))
  refine own_aloadN X52 own_d6_26 (pc' := 27) rfl (v := (.ref a1)) rfl rfl ?_
  refine own_aload X52 own_d6_27 (pc' := 29) rfl (v := (.ref a6)) rfl rfl ?_
  refine own_putF X52 (hw _ (List.mem_of_getElem? (i := 46) rfl)) F60 A56 (Or.inr ⟨(hw _ (List.mem_of_getElem? (i := 47) rfl)), rfl, hnm⟩) (hw _ (List.mem_of_getElem? (i := 27) rfl)) (ty := (.object "java/lang/String")) (by decide) rfl rfl g_a1 own_d6_29 (pc' := 32) rfl fun T64 h65 lc67 X66 W68 F69 => ?_
  have A70 := Exa.wr W68 A56
  have F71 := Fld.other W68 F57 (Or.inr (slot_ne (Or.inr (hw _ (List.mem_of_getElem? (i := 39) rfl))) (Or.inr (hw _ (List.mem_of_getElem? (i := 47) rfl))) (by decide) (t := .long) (t' := (.object "java/lang/String")) (by decide) (by decide)))
  have F72 := Fld.other W68 F58 (Or.inr (slot_ne (Or.inr (hw _ (List.mem_of_getElem? (i := 41) rfl))) (Or.inr (hw _ (List.mem_of_getElem? (i := 47) rfl))) (by decide) (t := (.object "java/lang/String")) (t' := (.object "java/lang/String")) (by decide) (by decide)))
  have F73 := Fld.other W68 F59 (Or.inr (slot_ne (Or.inr (hw _ (List.mem_of_getElem? (i := 43) rfl))) (Or.inr (hw _ (List.mem_of_getElem? (i := 47) rfl))) (by decide) (t := (.object "java/lang/String")) (t' := (.object "java/lang/String")) (by decide) (by decide)))
  have F74 := Fld.other W68 F55 (Or.inr (slot_ne (Or.inr (hw _ (List.mem_of_getElem? (i := 45) rfl))) (Or.inr (hw _ (List.mem_of_getElem? (i := 47) rfl))) (by decide) (t := (.object "java/lang/String")) (t' := (.object "java/lang/String")) (by decide) (by decide)))
  have F75 := Fld.other W68 F61 (Or.inr (slot_ne (Or.inr (hw _ (List.mem_of_getElem? (i := 49) rfl))) (Or.inr (hw _ (List.mem_of_getElem? (i := 47) rfl))) (by decide) (t := .int) (t' := (.object "java/lang/String")) (by decide) (by decide)))
  have F76 := Fld.other W68 F62 (Or.inr (slot_ne (Or.inr (hw _ (List.mem_of_getElem? (i := 51) rfl))) (Or.inr (hw _ (List.mem_of_getElem? (i := 47) rfl))) (by decide) (t := .long) (t' := (.object "java/lang/String")) (by decide) (by decide)))
  have K77 := Keep.wr K63 W68 (Or.inl (List.mem_of_getElem? (i := 0) rfl))
  refine own_aloadN X66 own_d6_32 (pc' := 33) rfl (v := (.ref a1)) rfl rfl ?_
  refine own_iload X66 own_d6_33 (pc' := 35) rfl (v := p7) rfl ?_
  refine own_putF X66 (hw _ (List.mem_of_getElem? (i := 48) rfl)) F75 A70 (Or.inr ⟨(hw _ (List.mem_of_getElem? (i := 49) rfl)), rfl, hnm⟩) (hw _ (List.mem_of_getElem? (i := 27) rfl)) (ty := .int) (by decide) rfl rfl g_a1 own_d6_35 (pc' := 38) rfl fun T78 h79 lc81 X80 W82 F83 => ?_
  have A84 := Exa.wr W82 A70
  have F85 := Fld.other W82 F71 (Or.inr (slot_ne (Or.inr (hw _ (List.mem_of_getElem? (i := 39) rfl))) (Or.inr (hw _ (List.mem_of_getElem? (i := 49) rfl))) (by decide) (t := .long) (t' := .int) (by decide) (by decide)))
  have F86 := Fld.other W82 F72 (Or.inr (slot_ne (Or.inr (hw _ (List.mem_of_getElem? (i := 41) rfl))) (Or.inr (hw _ (List.mem_of_getElem? (i := 49) rfl))) (by decide) (t := (.object "java/lang/String")) (t' := .int) (by decide) (by decide)))
  have F87 := Fld.other W82 F73 (Or.inr (slot_ne (Or.inr (hw _ (List.mem_of_getElem? (i := 43) rfl))) (Or.inr (hw _ (List.mem_of_getElem? (i := 49) rfl))) (by decide) (t := (.object "java/lang/String")) (t' := .int) (by decide) (by decide)))
  have F88 := Fld.other W82 F74 (Or.inr (slot_ne (Or.inr (hw _ (List.mem_of_getElem? (i := 45) rfl))) (Or.inr (hw _ (List.mem_of_getElem? (i := 49) rfl))) (by decide) (t := (.object "java/lang/String")) (t' := .int) (by decide) (by decide)))
  have F89 := Fld.other W82 F69 (Or.inr (slot_ne (Or.inr (hw _ (List.mem_of_getElem? (i := 47) rfl))) (Or.inr (hw _ (List.mem_of_getElem? (i := 49) rfl))) (by decide) (t := (.object "java/lang/String")) (t' := .int) (by decide) (by decide)))
  have F90 := Fld.other W82 F76 (Or.inr (slot_ne (Or.inr (hw _ (List.mem_of_getElem? (i := 51) rfl))) (Or.inr (hw _ (List.mem_of_getElem? (i := 49) rfl))) (by decide) (t := .long) (t' := .int) (by decide) (by decide)))
  have K91 := Keep.wr K77 W82 (Or.inl (List.mem_of_getElem? (i := 0) rfl))
  refine own_aloadN X80 own_d6_38 (pc' := 39) rfl (v := (.ref a1)) rfl rfl ?_
  refine own_lload X80 own_d6_39 (pc' := 41) rfl (v := q8) rfl ?_
  refine own_putF X80 (hw _ (List.mem_of_getElem? (i := 50) rfl)) F90 A84 (Or.inr ⟨(hw _ (List.mem_of_getElem? (i := 51) rfl)), rfl, hnm⟩) (hw _ (List.mem_of_getElem? (i := 27) rfl)) (ty := .long) (by decide) rfl rfl g_a1 own_d6_41 (pc' := 44) rfl fun T92 h93 lc95 X94 W96 F97 => ?_
  have A98 := Exa.wr W96 A84
  have F99 := Fld.other W96 F85 (Or.inr (slot_ne (Or.inr (hw _ (List.mem_of_getElem? (i := 39) rfl))) (Or.inr (hw _ (List.mem_of_getElem? (i := 51) rfl))) (by decide) (t := .long) (t' := .long) (by decide) (by decide)))
  have F100 := Fld.other W96 F86 (Or.inr (slot_ne (Or.inr (hw _ (List.mem_of_getElem? (i := 41) rfl))) (Or.inr (hw _ (List.mem_of_getElem? (i := 51) rfl))) (by decide) (t := (.object "java/lang/String")) (t' := .long) (by decide) (by decide)))
  have F101 := Fld.other W96 F87 (Or.inr (slot_ne (Or.inr (hw _ (List.mem_of_getElem? (i := 43) rfl))) (Or.inr (hw _ (List.mem_of_getElem? (i := 51) rfl))) (by decide) (t := (.object "java/lang/String")) (t' := .long) (by decide) (by decide)))
  have F102 := Fld.other W96 F88 (Or.inr (slot_ne (Or.inr (hw _ (List.mem_of_getElem? (i := 45) rfl))) (Or.inr (hw _ (List.mem_of_getElem? (i := 51) rfl))) (by decide) (t := (.object "java/lang/String")) (t' := .long) (by decide) (by decide)))
  have F103 := Fld.other W96 F89 (Or.inr (slot_ne (Or.inr (hw _ (List.mem_of_getElem? (i := 47) rfl))) (Or.inr (hw _ (List.mem_of_getElem? (i := 51) rfl))) (by decide) (t := (.object "java/lang/String")) (t' := .long) (by decide) (by decide)))
  have F104 := Fld.other W96 F83 (Or.inr (slot_ne (Or.inr (hw _ (List.mem_of_getElem? (i := 49) rfl))) (Or.inr (hw _ (List.mem_of_getElem? (i := 51) rfl))) (by decide) (t := .int) (t' := .long) (by decide) (by decide)))
  have K105 := Keep.wr K91 W96 (Or.inl (List.mem_of_getElem? (i := 0) rfl))
  refine own_vret X94 hret own_d6_44 (by decide) (by decide) ?_
  exact ⟨rfl, K105, F101, F97, F102, F103, F99, F104, F100⟩
theorem own_d8_0 : decode prog_39_method_2_code 0 = .ok (.aload_n 0, 1) := by decide +kernel
theorem own_d8_1 : decode prog_39_method_2_code 1 = .ok (.getfield 26, 3) := by decide +kernel
theorem own_d8_4 : decode prog_39_method_2_code 4 = .ok (.ifCond .eq 7, 3) := by decide +kernel
theorem own_d8_7 : decode prog_39_method_2_code 7 = .ok (.iconst 1, 1) := by decide +kernel
theorem own_d8_8 : decode prog_39_method_2_code 8 = .ok (.goto 4, 3) := by decide +kernel
theorem own_d8_11 : decode prog_39_method_2_code 11 = .ok (.iconst 0, 1) := by decide +kernel
theorem own_d8_12 : decode prog_39_method_2_code 12 = .ok (.ireturn, 1) := by decide +kernel
theorem own_ef8 (a1 : Addr) (m : MethodId) : entryFrame m #[(.ref a1)] 1 = mkF m 0 #[.val (.ref a1)] [] := by first | (simp [entryFrame, mkF, argsToLocals, Value.category]; done) | rfl
theorem own_pf8 : plainFor (⟨"com/example/moratuwa/moratuwa/replay/Exchange", "answered", "()Z"⟩ : MethodName) = true := by first | exact plainFor_of_name (by first | (simp [plainName, overriddenIn]; done) | decide +kernel) | decide +kernel
def own_F8 (w1 : Int32) : Int32 := (if w1 = (0 : Int32) then (0 : Int32) else (1 : Int32))
set_option maxRecDepth 65536 in
set_option maxHeartbeats 40000000 in
theorem own_rm8 (l : Launch) (Z : State) (a0 : Array Value) (hw : ∀ d ∈ tables_1, d.before a0 Z = true) (a1 : Addr) (w1 : Int32) (h0 : Heap) (n0 : Nat) (Z0 : n0 ≤ h0.size) (E_a1 : Exa Z h0 a1 "com/example/moratuwa/moratuwa/replay/Exchange") (F_status_a1 : Fld Z h0 a1 "com/example/moratuwa/moratuwa/replay/Exchange" "status" "I" (.int w1)) :
    own_Con l Z (⟨"com/example/moratuwa/moratuwa/replay/Exchange", "answered", "()Z"⟩ : MethodName) prog_39_method_2_code 1 (some .boolean) ({ frames := 0, cells := 0, slots := 0, locals := 0 } : Room) #[(.ref a1)] h0 n0 (fun v h => v = some (.int (own_F8 w1)) ∧ h = h0) := by
  refine own_enter own_pf8 Z0 (own_ef8 a1) ?_
  intro p e s m below meth c T0 X0 hret hnm
  refine own_aloadN X0 own_d8_0 (pc' := 1) rfl (v := (.ref a1)) rfl rfl ?_
  refine own_getF X0 (hw _ (List.mem_of_getElem? (i := 48) rfl)) F_status_a1 own_d8_1 (pc' := 4) rfl fun T1 X2 => ?_
  by_cases hc3 : w1 = (0 : Int32)
  · refine own_ifY X2 own_d8_4 (teq hc3).1 (by decide) (pc' := 11) rfl ?_
    refine own_iconst X2 own_d8_11 (pc' := 12) rfl (z := (0 : Int32)) rfl ?_
    refine own_iret X2 (t := .boolean) (w := (0 : Int32)) hret (by simp) own_d8_12 rfl (by decide) (by decide) ?_
    exact ⟨congrArg (fun t => some (Value.int t)) (show (0 : Int32) = own_F8 w1 from (by rw [own_F8, if_pos hc3])), rfl⟩
  · refine own_ifN X2 own_d8_4 (feq hc3).1 (pc' := 7) rfl ?_
    refine own_iconst X2 own_d8_7 (pc' := 8) rfl (z := (1 : Int32)) rfl ?_
    refine own_goto X2 own_d8_8 (by decide) (pc' := 12) rfl ?_
    refine own_iret X2 (t := .boolean) (w := (1 : Int32)) hret (by simp) own_d8_12 rfl (by decide) (by decide) ?_
    exact ⟨congrArg (fun t => some (Value.int t)) (show (1 : Int32) = own_F8 w1 from (by rw [own_F8, if_neg hc3])), rfl⟩
theorem own_d9_0 : decode prog_39_method_12_code 0 = .ok (.aload_n 0, 1) := by decide +kernel
theorem own_d9_1 : decode prog_39_method_12_code 1 = .ok (.getfield 26, 3) := by decide +kernel
theorem own_d9_4 : decode prog_39_method_12_code 4 = .ok (.ireturn, 1) := by decide +kernel
theorem own_ef9 (a1 : Addr) (m : MethodId) : entryFrame m #[(.ref a1)] 1 = mkF m 0 #[.val (.ref a1)] [] := by first | (simp [entryFrame, mkF, argsToLocals, Value.category]; done) | rfl
theorem own_pf9 : plainFor (⟨"com/example/moratuwa/moratuwa/replay/Exchange", "status", "()I"⟩ : MethodName) = true := by first | exact plainFor_of_name (by first | (simp [plainName, overriddenIn]; done) | decide +kernel) | decide +kernel
def own_F9 (w1 : Int32) : Int32 := w1
set_option maxRecDepth 65536 in
set_option maxHeartbeats 40000000 in
theorem own_rm9 (l : Launch) (Z : State) (a0 : Array Value) (hw : ∀ d ∈ tables_1, d.before a0 Z = true) (a1 : Addr) (w1 : Int32) (h0 : Heap) (n0 : Nat) (Z0 : n0 ≤ h0.size) (E_a1 : Exa Z h0 a1 "com/example/moratuwa/moratuwa/replay/Exchange") (F_status_a1 : Fld Z h0 a1 "com/example/moratuwa/moratuwa/replay/Exchange" "status" "I" (.int w1)) :
    own_Con l Z (⟨"com/example/moratuwa/moratuwa/replay/Exchange", "status", "()I"⟩ : MethodName) prog_39_method_12_code 1 (some .int) ({ frames := 0, cells := 0, slots := 0, locals := 0 } : Room) #[(.ref a1)] h0 n0 (fun v h => v = some (.int (own_F9 w1)) ∧ h = h0) := by
  refine own_enter own_pf9 Z0 (own_ef9 a1) ?_
  intro p e s m below meth c T0 X0 hret hnm
  refine own_aloadN X0 own_d9_0 (pc' := 1) rfl (v := (.ref a1)) rfl rfl ?_
  refine own_getF X0 (hw _ (List.mem_of_getElem? (i := 48) rfl)) F_status_a1 own_d9_1 (pc' := 4) rfl fun T1 X2 => ?_
  refine own_iret X2 (t := .int) (w := w1) hret (by simp) own_d9_4 rfl (by decide) (by decide) ?_
  exact ⟨congrArg (fun t => some (Value.int t)) (show w1 = own_F9 w1 from rfl), rfl⟩
theorem own_pd4 : parseMethodDescriptor "(C)Ljava/lang/String;" = some ⟨[.char], some (.object "java/lang/String")⟩ := by decide +kernel
theorem own_pd5 : parseMethodDescriptor "(JLjava/lang/String;Ljava/lang/String;Ljava/lang/String;Ljava/lang/String;IJ)V" = some ⟨[.long, (.object "java/lang/String"), (.object "java/lang/String"), (.object "java/lang/String"), (.object "java/lang/String"), .int, .long], none⟩ := by decide +kernel
theorem own_pd6 : parseMethodDescriptor "()Z" = some ⟨[], some .boolean⟩ := by decide +kernel
theorem own_pd7 : parseMethodDescriptor "()I" = some ⟨[], some .int⟩ := by decide +kernel
theorem own_ef0 (q1 : Int64) (p2 : Int32) (q3 : Int64) (p4 : Int32) (m : MethodId) : entryFrame m #[(.long q1), (.int p2), (.long q3), (.int p4)] maxLocals = mkF m 0 #[.val (.long q1), .second, .val (.int p2), .val (.long q3), .second, .val (.int p4), .unset, .unset, .unset, .unset, .unset, .unset, .unset] [] := by first | (simp [entryFrame, mkF, argsToLocals, Value.category, maxLocals]; done) | rfl
theorem own_pf0 : plainFor x = true := by first | exact plainFor_of_name (by first | (simp [plainName, overriddenIn]; done) | decide +kernel) | decide +kernel
def own_j0_110 (p2 : Int32) : Int32 := (if p2 = (0 : Int32) then (0 : Int32) else (1 : Int32))
def own_F0 (q1 : Int64) (p2 : Int32) (q3 : Int64) (p4 : Int32) (w0 : Int32) : Int32 := (if (own_F8 p2) = (own_j0_110 p2) then (if (own_F8 (0 : Int32)) = (0 : Int32) then (if (own_F9 p2) = p2 then (1 : Int32) else (0 : Int32)) else (0 : Int32)) else (0 : Int32))
-- LEMMAS
theorem own_ch (x : Int32) : ¬ (255 : Int32) < ((x &&& (255 : Int32)).toUInt32.toUInt16.toUInt32.toInt32) := by
  have a1 : (x &&& 255).toInt = x.toInt % 256 := own_mk (k := 8) (by decide) (by decide)
  have e : ((x &&& (255 : Int32)).toUInt32.toUInt16.toUInt32.toInt32) = x &&& 255 := by
    apply Int32.toBitVec_inj.mp
    show ((x &&& 255).toBitVec.setWidth 16).setWidth 32 = (x &&& 255).toBitVec
    apply BitVec.eq_of_toNat_eq
    have h : (x &&& 255).toBitVec.toNat < 256 := by rw [Int32.toBitVec_and, BitVec.toNat_and]; exact Nat.lt_of_le_of_lt Nat.and_le_right (by decide)
    rw [BitVec.toNat_setWidth, BitVec.toNat_setWidth]; omega
  have e0 : (255 : Int32).toInt = 255 := rfl
  rw [e, own_lt]; omega
-- END LEMMAS
set_option maxRecDepth 65536 in
set_option maxHeartbeats 40000000 in
theorem own_rm0 (l : Launch) (Z : State) (a0 : Array Value) (hw : ∀ d ∈ tables_1, d.before a0 Z = true) (q1 : Int64) (p2 : Int32) (q3 : Int64) (p4 : Int32) (w0 : Int32) (h0 : Heap) (n0 : Nat) (Z0 : n0 ≤ h0.size) (S_COMPACT_STRINGS : Sta Z h0 "java/lang/String" "COMPACT_STRINGS" "Z" (.int w0)) (hc : ¬ w0 = (0 : Int32)) :
    own_Con l Z x code maxLocals ret room_1 #[(.long q1), (.int p2), (.long q3), (.int p4)] h0 n0 (fun v h => v = some (.int (own_F0 q1 p2 q3 p4 w0))) := by
  refine own_enter own_pf0 Z0 (own_ef0 q1 p2 q3 p4) ?_
  intro p e s m below meth c T0 X0 hret hnm
  refine own_iload X0 at_0 (pc' := 2) rfl (v := p4) rfl ?_
  refine own_sipush X0 at_2 (pc' := 5) rfl (z := (255 : Int32)) rfl ?_
  refine own_iand X0 at_5 (pc' := 6) rfl (z := (p4 &&& (255 : Int32))) rfl ?_
  refine own_i2c X0 at_6 (pc' := 7) rfl (z := ((p4 &&& (255 : Int32)).toUInt32.toUInt16.toUInt32.toInt32)) rfl ?_
  refine own_callS X0 (argsL := [(.int ((p4 &&& (255 : Int32)).toUInt32.toUInt16.toUInt32.toInt32))]) (S := []) (own_rm1 l Z a0 hw ((p4 &&& (255 : Int32)).toUInt32.toUInt16.toUInt32.toInt32) w0 h0 n0 X0.2.2.2.2.2.2.2.2.1 S_COMPACT_STRINGS hc (own_ch _)) (hw _ (List.mem_of_getElem? (i := 0) rfl)) (hw _ (List.mem_of_getElem? (i := 1) rfl)) (hw _ (List.mem_of_getElem? (i := 2) rfl)) (hw _ (List.mem_of_getElem? (i := 3) rfl)) (by decide) (by decide) 0 (by decide) rfl own_pd4 rfl rfl (Nat.le_of_eq rfl) (by decide) (by decide) at_7 (pc' := 10) rfl fun T1 h2 lc3 r4 X5 Q6 => ?_
  obtain ⟨b7, rfl, g8, sz9, K10, A11⟩ := Q6
  have S12 := own_staK S_COMPACT_STRINGS K10
  show own_E p e below _ (T1.setTop (mkF m 10 #[.val (.long q1), .second, .val (.int p2), .val (.long q3), .second, .val (.int p4), .unset, .unset, .unset, .unset, .unset, .unset, .unset] [(.ref b7)]))
  refine own_astore X5 at_10 (pc' := 12) rfl rfl (Ls' := #[.val (.long q1), .second, .val (.int p2), .val (.long q3), .second, .val (.int p4), .val (.ref b7), .unset, .unset, .unset, .unset, .unset, .unset]) rfl ?_
  refine own_iload X5 at_12 (pc' := 14) rfl (v := p4) rfl ?_
  refine own_bipush X5 at_14 (pc' := 16) rfl (z := (8 : Int32)) rfl ?_
  refine own_iushr X5 at_16 (pc' := 17) rfl (z := ((p4.toUInt32 >>> (8 : UInt32)).toInt32)) rfl ?_
  refine own_sipush X5 at_17 (pc' := 20) rfl (z := (255 : Int32)) rfl ?_
  refine own_iand X5 at_20 (pc' := 21) rfl (z := (((p4.toUInt32 >>> (8 : UInt32)).toInt32) &&& (255 : Int32))) rfl ?_
  refine own_i2c X5 at_21 (pc' := 22) rfl (z := ((((p4.toUInt32 >>> (8 : UInt32)).toInt32) &&& (255 : Int32)).toUInt32.toUInt16.toUInt32.toInt32)) rfl ?_
  refine own_callS X5 (argsL := [(.int ((((p4.toUInt32 >>> (8 : UInt32)).toInt32) &&& (255 : Int32)).toUInt32.toUInt16.toUInt32.toInt32))]) (S := []) (own_rm1 l Z a0 hw ((((p4.toUInt32 >>> (8 : UInt32)).toInt32) &&& (255 : Int32)).toUInt32.toUInt16.toUInt32.toInt32) w0 h2 n0 X5.2.2.2.2.2.2.2.2.1 S12 hc (own_ch _)) (hw _ (List.mem_of_getElem? (i := 0) rfl)) (hw _ (List.mem_of_getElem? (i := 1) rfl)) (hw _ (List.mem_of_getElem? (i := 2) rfl)) (hw _ (List.mem_of_getElem? (i := 3) rfl)) (by decide) (by decide) 0 (by decide) rfl own_pd4 rfl rfl (Nat.le_of_eq rfl) (by decide) (by decide) at_22 (pc' := 25) rfl fun T13 h14 lc15 r16 X17 Q18 => ?_
  obtain ⟨b19, rfl, g20, sz21, K22, A23⟩ := Q18
  have ne24 : b7 ≠ b19 := Nat.ne_of_lt (Nat.lt_of_lt_of_le A11.lt sz21)
  have S25 := own_staK S12 K22
  have A26 := Exa.keep A11 K22
  show own_E p e below _ (T13.setTop (mkF m 25 #[.val (.long q1), .second, .val (.int p2), .val (.long q3), .second, .val (.int p4), .val (.ref b7), .unset, .unset, .unset, .unset, .unset, .unset] [(.ref b19)]))
  refine own_astore X17 at_25 (pc' := 27) rfl rfl (Ls' := #[.val (.long q1), .second, .val (.int p2), .val (.long q3), .second, .val (.int p4), .val (.ref b7), .val (.ref b19), .unset, .unset, .unset, .unset, .unset]) rfl ?_
  refine own_iload X17 at_27 (pc' := 29) rfl (v := p4) rfl ?_
  refine own_bipush X17 at_29 (pc' := 31) rfl (z := (16 : Int32)) rfl ?_
  refine own_iushr X17 at_31 (pc' := 32) rfl (z := ((p4.toUInt32 >>> (16 : UInt32)).toInt32)) rfl ?_
  refine own_sipush X17 at_32 (pc' := 35) rfl (z := (255 : Int32)) rfl ?_
  refine own_iand X17 at_35 (pc' := 36) rfl (z := (((p4.toUInt32 >>> (16 : UInt32)).toInt32) &&& (255 : Int32))) rfl ?_
  refine own_i2c X17 at_36 (pc' := 37) rfl (z := ((((p4.toUInt32 >>> (16 : UInt32)).toInt32) &&& (255 : Int32)).toUInt32.toUInt16.toUInt32.toInt32)) rfl ?_
  refine own_callS X17 (argsL := [(.int ((((p4.toUInt32 >>> (16 : UInt32)).toInt32) &&& (255 : Int32)).toUInt32.toUInt16.toUInt32.toInt32))]) (S := []) (own_rm1 l Z a0 hw ((((p4.toUInt32 >>> (16 : UInt32)).toInt32) &&& (255 : Int32)).toUInt32.toUInt16.toUInt32.toInt32) w0 h14 n0 X17.2.2.2.2.2.2.2.2.1 S25 hc (own_ch _)) (hw _ (List.mem_of_getElem? (i := 0) rfl)) (hw _ (List.mem_of_getElem? (i := 1) rfl)) (hw _ (List.mem_of_getElem? (i := 2) rfl)) (hw _ (List.mem_of_getElem? (i := 3) rfl)) (by decide) (by decide) 0 (by decide) rfl own_pd4 rfl rfl (Nat.le_of_eq rfl) (by decide) (by decide) at_37 (pc' := 40) rfl fun T27 h28 lc29 r30 X31 Q32 => ?_
  obtain ⟨b33, rfl, g34, sz35, K36, A37⟩ := Q32
  have ne38 : b7 ≠ b33 := Nat.ne_of_lt (Nat.lt_of_lt_of_le A26.lt sz35)
  have ne39 : b19 ≠ b33 := Nat.ne_of_lt (Nat.lt_of_lt_of_le A23.lt sz35)
  have S40 := own_staK S25 K36
  have A41 := Exa.keep A26 K36
  have A42 := Exa.keep A23 K36
  show own_E p e below _ (T27.setTop (mkF m 40 #[.val (.long q1), .second, .val (.int p2), .val (.long q3), .second, .val (.int p4), .val (.ref b7), .val (.ref b19), .unset, .unset, .unset, .unset, .unset] [(.ref b33)]))
  refine own_astore X31 at_40 (pc' := 42) rfl rfl (Ls' := #[.val (.long q1), .second, .val (.int p2), .val (.long q3), .second, .val (.int p4), .val (.ref b7), .val (.ref b19), .val (.ref b33), .unset, .unset, .unset, .unset]) rfl ?_
  refine own_iload X31 at_42 (pc' := 44) rfl (v := p4) rfl ?_
  refine own_bipush X31 at_44 (pc' := 46) rfl (z := (24 : Int32)) rfl ?_
  refine own_iushr X31 at_46 (pc' := 47) rfl (z := ((p4.toUInt32 >>> (24 : UInt32)).toInt32)) rfl ?_
  refine own_sipush X31 at_47 (pc' := 50) rfl (z := (255 : Int32)) rfl ?_
  refine own_iand X31 at_50 (pc' := 51) rfl (z := (((p4.toUInt32 >>> (24 : UInt32)).toInt32) &&& (255 : Int32))) rfl ?_
  refine own_i2c X31 at_51 (pc' := 52) rfl (z := ((((p4.toUInt32 >>> (24 : UInt32)).toInt32) &&& (255 : Int32)).toUInt32.toUInt16.toUInt32.toInt32)) rfl ?_
  refine own_callS X31 (argsL := [(.int ((((p4.toUInt32 >>> (24 : UInt32)).toInt32) &&& (255 : Int32)).toUInt32.toUInt16.toUInt32.toInt32))]) (S := []) (own_rm1 l Z a0 hw ((((p4.toUInt32 >>> (24 : UInt32)).toInt32) &&& (255 : Int32)).toUInt32.toUInt16.toUInt32.toInt32) w0 h28 n0 X31.2.2.2.2.2.2.2.2.1 S40 hc (own_ch _)) (hw _ (List.mem_of_getElem? (i := 0) rfl)) (hw _ (List.mem_of_getElem? (i := 1) rfl)) (hw _ (List.mem_of_getElem? (i := 2) rfl)) (hw _ (List.mem_of_getElem? (i := 3) rfl)) (by decide) (by decide) 0 (by decide) rfl own_pd4 rfl rfl (Nat.le_of_eq rfl) (by decide) (by decide) at_52 (pc' := 55) rfl fun T43 h44 lc45 r46 X47 Q48 => ?_
  obtain ⟨b49, rfl, g50, sz51, K52, A53⟩ := Q48
  have ne54 : b7 ≠ b49 := Nat.ne_of_lt (Nat.lt_of_lt_of_le A41.lt sz51)
  have ne55 : b19 ≠ b49 := Nat.ne_of_lt (Nat.lt_of_lt_of_le A42.lt sz51)
  have ne56 : b33 ≠ b49 := Nat.ne_of_lt (Nat.lt_of_lt_of_le A37.lt sz51)
  have S57 := own_staK S40 K52
  have A58 := Exa.keep A41 K52
  have A59 := Exa.keep A42 K52
  have A60 := Exa.keep A37 K52
  show own_E p e below _ (T43.setTop (mkF m 55 #[.val (.long q1), .second, .val (.int p2), .val (.long q3), .second, .val (.int p4), .val (.ref b7), .val (.ref b19), .val (.ref b33), .unset, .unset, .unset, .unset] [(.ref b49)]))
  refine own_astore X47 at_55 (pc' := 57) rfl rfl (Ls' := #[.val (.long q1), .second, .val (.int p2), .val (.long q3), .second, .val (.int p4), .val (.ref b7), .val (.ref b19), .val (.ref b33), .val (.ref b49), .unset, .unset, .unset]) rfl ?_
  refine own_new X47 (hw _ (List.mem_of_getElem? (i := 26) rfl)) (hw _ (List.mem_of_getElem? (i := 27) rfl)) (hw _ (List.mem_of_getElem? (i := 28) rfl)) (by decide) (by decide) at_57 (pc' := 60) rfl fun T62 h63 b61 X64 Ex65 hs66 g67 A68 D69 => ?_
  have ne70 : b7 ≠ b61 := Nat.ne_of_lt (Nat.lt_of_lt_of_eq A58.lt hs66)
  have ne71 : b19 ≠ b61 := Nat.ne_of_lt (Nat.lt_of_lt_of_eq A59.lt hs66)
  have ne72 : b33 ≠ b61 := Nat.ne_of_lt (Nat.lt_of_lt_of_eq A60.lt hs66)
  have ne73 : b49 ≠ b61 := Nat.ne_of_lt (Nat.lt_of_lt_of_eq A53.lt hs66)
  have S74 := Sta.ext Ex65 S57
  have A75 := Exa.ext Ex65 A58
  have A76 := Exa.ext Ex65 A59
  have A77 := Exa.ext Ex65 A60
  have A78 := Exa.ext Ex65 A53
  have F79 : Fld Z h63 b61 "com/example/moratuwa/moratuwa/replay/Exchange" "sentMicros" "J" (.long (0 : Int64)) := D69 (Or.inr (hw _ (List.mem_of_getElem? (i := 39) rfl))) (ty := .long) (by decide)
  have F80 : Fld Z h63 b61 "com/example/moratuwa/moratuwa/replay/Exchange" "target" "Ljava/lang/String;" .null := D69 (Or.inr (hw _ (List.mem_of_getElem? (i := 41) rfl))) (ty := (.object "java/lang/String")) (by decide)
  have F81 : Fld Z h63 b61 "com/example/moratuwa/moratuwa/replay/Exchange" "client" "Ljava/lang/String;" .null := D69 (Or.inr (hw _ (List.mem_of_getElem? (i := 43) rfl))) (ty := (.object "java/lang/String")) (by decide)
  have F82 : Fld Z h63 b61 "com/example/moratuwa/moratuwa/replay/Exchange" "method" "Ljava/lang/String;" .null := D69 (Or.inr (hw _ (List.mem_of_getElem? (i := 45) rfl))) (ty := (.object "java/lang/String")) (by decide)
  have F83 : Fld Z h63 b61 "com/example/moratuwa/moratuwa/replay/Exchange" "path" "Ljava/lang/String;" .null := D69 (Or.inr (hw _ (List.mem_of_getElem? (i := 47) rfl))) (ty := (.object "java/lang/String")) (by decide)
  have F84 : Fld Z h63 b61 "com/example/moratuwa/moratuwa/replay/Exchange" "status" "I" (.int (0 : Int32)) := D69 (Or.inr (hw _ (List.mem_of_getElem? (i := 49) rfl))) (ty := .int) (by decide)
  have F85 : Fld Z h63 b61 "com/example/moratuwa/moratuwa/replay/Exchange" "latencyMicros" "J" (.long (0 : Int64)) := D69 (Or.inr (hw _ (List.mem_of_getElem? (i := 51) rfl))) (ty := .long) (by decide)
  refine own_dup X64 at_60 (pc' := 61) rfl rfl ?_
  refine own_lloadN X64 at_61 (pc' := 62) rfl (v := q1) rfl ?_
  refine own_aload X64 at_62 (pc' := 64) rfl (v := (.ref b7)) rfl rfl ?_
  refine own_aload X64 at_64 (pc' := 66) rfl (v := (.ref b19)) rfl rfl ?_
  refine own_aload X64 at_66 (pc' := 68) rfl (v := (.ref b33)) rfl rfl ?_
  refine own_aload X64 at_68 (pc' := 70) rfl (v := (.ref b49)) rfl rfl ?_
  refine own_iloadN X64 at_70 (pc' := 71) rfl (v := p2) rfl ?_
  refine own_lloadN X64 at_71 (pc' := 72) rfl (v := q3) rfl ?_
  refine own_callI X64 (a := b61) (argsL := [(.long q1), (.ref b7), (.ref b19), (.ref b33), (.ref b49), (.int p2), (.long q3)]) (S := [(.ref b61)]) (own_rm6 l Z a0 hw b61 q1 b7 b19 b33 b49 p2 q3 h63 n0 X64.2.2.2.2.2.2.2.2.1 A68 F79 F80 F81 F82 F83 F84 F85 g67) rfl (hw _ (List.mem_of_getElem? (i := 29) rfl)) (hw _ (List.mem_of_getElem? (i := 30) rfl)) (hw _ (List.mem_of_getElem? (i := 28) rfl)) (hw _ (List.mem_of_getElem? (i := 31) rfl)) (by decide) (by decide) 1 (by decide) rfl own_pd5 rfl rfl (Nat.le_of_eq rfl) (by decide) (by decide) at_72 (pc' := 75) rfl fun T86 h87 lc88 r89 X90 Q91 => ?_
  obtain ⟨rfl, K92, F93, F94, F95, F96, F97, F98, F99⟩ := Q91
  have A100 := Exa.keep A75 K92
  have A101 := Exa.keep A76 K92
  have A102 := Exa.keep A77 K92
  have A103 := Exa.keep A78 K92
  have A104 := Exa.keep A68 K92
  show own_E p e below _ (T86.setTop (mkF m 75 #[.val (.long q1), .second, .val (.int p2), .val (.long q3), .second, .val (.int p4), .val (.ref b7), .val (.ref b19), .val (.ref b33), .val (.ref b49), .unset, .unset, .unset] [(.ref b61)]))
  refine own_astore X90 at_75 (pc' := 77) rfl rfl (Ls' := #[.val (.long q1), .second, .val (.int p2), .val (.long q3), .second, .val (.int p4), .val (.ref b7), .val (.ref b19), .val (.ref b33), .val (.ref b49), .val (.ref b61), .unset, .unset]) rfl ?_
  refine own_new X90 (hw _ (List.mem_of_getElem? (i := 26) rfl)) (hw _ (List.mem_of_getElem? (i := 27) rfl)) (hw _ (List.mem_of_getElem? (i := 28) rfl)) (by decide) (by decide) at_77 (pc' := 80) rfl fun T106 h107 b105 X108 Ex109 hs110 g111 A112 D113 => ?_
  have ne114 : b7 ≠ b105 := Nat.ne_of_lt (Nat.lt_of_lt_of_eq A100.lt hs110)
  have ne115 : b19 ≠ b105 := Nat.ne_of_lt (Nat.lt_of_lt_of_eq A101.lt hs110)
  have ne116 : b33 ≠ b105 := Nat.ne_of_lt (Nat.lt_of_lt_of_eq A102.lt hs110)
  have ne117 : b49 ≠ b105 := Nat.ne_of_lt (Nat.lt_of_lt_of_eq A103.lt hs110)
  have ne118 : b61 ≠ b105 := Nat.ne_of_lt (Nat.lt_of_lt_of_eq A104.lt hs110)
  have A119 := Exa.ext Ex109 A100
  have A120 := Exa.ext Ex109 A101
  have A121 := Exa.ext Ex109 A102
  have A122 := Exa.ext Ex109 A103
  have A123 := Exa.ext Ex109 A104
  have F124 := Fld.ext Ex109 F97
  have F125 := Fld.ext Ex109 F99
  have F126 := Fld.ext Ex109 F93
  have F127 := Fld.ext Ex109 F95
  have F128 := Fld.ext Ex109 F96
  have F129 := Fld.ext Ex109 F98
  have F130 := Fld.ext Ex109 F94
  have F131 : Fld Z h107 b105 "com/example/moratuwa/moratuwa/replay/Exchange" "sentMicros" "J" (.long (0 : Int64)) := D113 (Or.inr (hw _ (List.mem_of_getElem? (i := 39) rfl))) (ty := .long) (by decide)
  have F132 : Fld Z h107 b105 "com/example/moratuwa/moratuwa/replay/Exchange" "target" "Ljava/lang/String;" .null := D113 (Or.inr (hw _ (List.mem_of_getElem? (i := 41) rfl))) (ty := (.object "java/lang/String")) (by decide)
  have F133 : Fld Z h107 b105 "com/example/moratuwa/moratuwa/replay/Exchange" "client" "Ljava/lang/String;" .null := D113 (Or.inr (hw _ (List.mem_of_getElem? (i := 43) rfl))) (ty := (.object "java/lang/String")) (by decide)
  have F134 : Fld Z h107 b105 "com/example/moratuwa/moratuwa/replay/Exchange" "method" "Ljava/lang/String;" .null := D113 (Or.inr (hw _ (List.mem_of_getElem? (i := 45) rfl))) (ty := (.object "java/lang/String")) (by decide)
  have F135 : Fld Z h107 b105 "com/example/moratuwa/moratuwa/replay/Exchange" "path" "Ljava/lang/String;" .null := D113 (Or.inr (hw _ (List.mem_of_getElem? (i := 47) rfl))) (ty := (.object "java/lang/String")) (by decide)
  have F136 : Fld Z h107 b105 "com/example/moratuwa/moratuwa/replay/Exchange" "status" "I" (.int (0 : Int32)) := D113 (Or.inr (hw _ (List.mem_of_getElem? (i := 49) rfl))) (ty := .int) (by decide)
  have F137 : Fld Z h107 b105 "com/example/moratuwa/moratuwa/replay/Exchange" "latencyMicros" "J" (.long (0 : Int64)) := D113 (Or.inr (hw _ (List.mem_of_getElem? (i := 51) rfl))) (ty := .long) (by decide)
  refine own_dup X108 at_80 (pc' := 81) rfl rfl ?_
  refine own_lloadN X108 at_81 (pc' := 82) rfl (v := q3) rfl ?_
  refine own_aload X108 at_82 (pc' := 84) rfl (v := (.ref b49)) rfl rfl ?_
  refine own_aload X108 at_84 (pc' := 86) rfl (v := (.ref b33)) rfl rfl ?_
  refine own_aload X108 at_86 (pc' := 88) rfl (v := (.ref b19)) rfl rfl ?_
  refine own_aload X108 at_88 (pc' := 90) rfl (v := (.ref b7)) rfl rfl ?_
  refine own_iconst X108 at_90 (pc' := 91) rfl (z := (0 : Int32)) rfl ?_
  refine own_lloadN X108 at_91 (pc' := 92) rfl (v := q1) rfl ?_
  refine own_callI X108 (a := b105) (argsL := [(.long q3), (.ref b49), (.ref b33), (.ref b19), (.ref b7), (.int (0 : Int32)), (.long q1)]) (S := [(.ref b105)]) (own_rm6 l Z a0 hw b105 q3 b49 b33 b19 b7 (0 : Int32) q1 h107 n0 X108.2.2.2.2.2.2.2.2.1 A112 F131 F132 F133 F134 F135 F136 F137 g111) rfl (hw _ (List.mem_of_getElem? (i := 29) rfl)) (hw _ (List.mem_of_getElem? (i := 30) rfl)) (hw _ (List.mem_of_getElem? (i := 28) rfl)) (hw _ (List.mem_of_getElem? (i := 31) rfl)) (by decide) (by decide) 1 (by decide) rfl own_pd5 rfl rfl (Nat.le_of_eq rfl) (by decide) (by decide) at_92 (pc' := 95) rfl fun T138 h139 lc140 r141 X142 Q143 => ?_
  obtain ⟨rfl, K144, F145, F146, F147, F148, F149, F150, F151⟩ := Q143
  have A152 := Exa.keep A119 K144
  have A153 := Exa.keep A120 K144
  have A154 := Exa.keep A121 K144
  have A155 := Exa.keep A122 K144
  have A156 := Exa.keep A123 K144
  have A157 := Exa.keep A112 K144
  have F158 := Fld.keep F124 K144 (ninS ne118 nin0)
  have F159 := Fld.keep F125 K144 (ninS ne118 nin0)
  have F160 := Fld.keep F126 K144 (ninS ne118 nin0)
  have F161 := Fld.keep F127 K144 (ninS ne118 nin0)
  have F162 := Fld.keep F128 K144 (ninS ne118 nin0)
  have F163 := Fld.keep F129 K144 (ninS ne118 nin0)
  have F164 := Fld.keep F130 K144 (ninS ne118 nin0)
  show own_E p e below _ (T138.setTop (mkF m 95 #[.val (.long q1), .second, .val (.int p2), .val (.long q3), .second, .val (.int p4), .val (.ref b7), .val (.ref b19), .val (.ref b33), .val (.ref b49), .val (.ref b61), .unset, .unset] [(.ref b105)]))
  refine own_astore X142 at_95 (pc' := 97) rfl rfl (Ls' := #[.val (.long q1), .second, .val (.int p2), .val (.long q3), .second, .val (.int p4), .val (.ref b7), .val (.ref b19), .val (.ref b33), .val (.ref b49), .val (.ref b61), .val (.ref b105), .unset]) rfl ?_
  refine own_iloadN X142 at_97 (pc' := 98) rfl (v := p2) rfl ?_
  have K168 : ∀ T169 lc171, own_A l Z "com/example/moratuwa/moratuwa/replay/ExchangeAnsweredPinLaw" code maxLocals n0 p e room_1 s m #[(.long q1), (.int p2), (.long q3), (.int p4)] below meth c T169 h139 lc171 10 34 → own_E p e below (own_G room_1 s n0 (fun v h => v = some (.int (own_F0 q1 p2 q3 p4 w0)))) (T169.setTop (mkF m 110 #[.val (.long q1), .second, .val (.int p2), .val (.long q3), .second, .val (.int p4), .val (.ref b7), .val (.ref b19), .val (.ref b33), .val (.ref b49), .val (.ref b61), .val (.ref b105), .val (.int (own_j0_110 p2))] [])) := by
    intro T169 lc171 X170
    refine own_aload X170 at_110 (pc' := 112) rfl (v := (.ref b61)) rfl rfl ?_
    refine own_callV X170 (C := "com/example/moratuwa/moratuwa/replay/Exchange") (a := b61) (argsL := []) (S := []) (own_rm8 l Z a0 hw b61 p2 h139 n0 X170.2.2.2.2.2.2.2.2.1 A156 F163) A156 (hw _ (List.mem_of_getElem? (i := 52) rfl)) (hw _ (List.mem_of_getElem? (i := 53) rfl)) (hw _ (List.mem_of_getElem? (i := 55) rfl)) (hw _ (List.mem_of_getElem? (i := 54) rfl)) (hw _ (List.mem_of_getElem? (i := 28) rfl)) (hw _ (List.mem_of_getElem? (i := 56) rfl)) (by decide) (by decide) 0 (by decide) rfl own_pd6 rfl rfl (Nat.le_of_eq rfl) (by decide) (by decide) at_112 (pc' := 115) rfl rfl fun T172 h173 lc174 r175 X176 Q177 => ?_
    obtain ⟨rfl, e178⟩ := Q177
    replace e178 := e178.symm
    subst e178
    show own_E p e below _ (T172.setTop (mkF m 115 #[.val (.long q1), .second, .val (.int p2), .val (.long q3), .second, .val (.int p4), .val (.ref b7), .val (.ref b19), .val (.ref b33), .val (.ref b49), .val (.ref b61), .val (.ref b105), .val (.int (own_j0_110 p2))] [(.int (own_F8 p2))]))
    refine own_iload X176 at_115 (pc' := 117) rfl (v := (own_j0_110 p2)) rfl ?_
    by_cases hc179 : (own_F8 p2) = (own_j0_110 p2)
    · refine own_icmpN X176 at_117 (teq hc179).2 (pc' := 120) rfl ?_
      refine own_aload X176 at_120 (pc' := 122) rfl (v := (.ref b105)) rfl rfl ?_
      refine own_callV X176 (C := "com/example/moratuwa/moratuwa/replay/Exchange") (a := b105) (argsL := []) (S := []) (own_rm8 l Z a0 hw b105 (0 : Int32) h139 n0 X176.2.2.2.2.2.2.2.2.1 A157 F150) A157 (hw _ (List.mem_of_getElem? (i := 52) rfl)) (hw _ (List.mem_of_getElem? (i := 53) rfl)) (hw _ (List.mem_of_getElem? (i := 55) rfl)) (hw _ (List.mem_of_getElem? (i := 54) rfl)) (hw _ (List.mem_of_getElem? (i := 28) rfl)) (hw _ (List.mem_of_getElem? (i := 56) rfl)) (by decide) (by decide) 0 (by decide) rfl own_pd6 rfl rfl (Nat.le_of_eq rfl) (by decide) (by decide) at_122 (pc' := 125) rfl rfl fun T180 h181 lc182 r183 X184 Q185 => ?_
      obtain ⟨rfl, e186⟩ := Q185
      replace e186 := e186.symm
      subst e186
      show own_E p e below _ (T180.setTop (mkF m 125 #[.val (.long q1), .second, .val (.int p2), .val (.long q3), .second, .val (.int p4), .val (.ref b7), .val (.ref b19), .val (.ref b33), .val (.ref b49), .val (.ref b61), .val (.ref b105), .val (.int (own_j0_110 p2))] [(.int (own_F8 (0 : Int32)))]))
      by_cases hc187 : (own_F8 (0 : Int32)) = (0 : Int32)
      · refine own_ifN X184 at_125 (teq hc187).2 (pc' := 128) rfl ?_
        refine own_aload X184 at_128 (pc' := 130) rfl (v := (.ref b61)) rfl rfl ?_
        refine own_callV X184 (C := "com/example/moratuwa/moratuwa/replay/Exchange") (a := b61) (argsL := []) (S := []) (own_rm9 l Z a0 hw b61 p2 h139 n0 X184.2.2.2.2.2.2.2.2.1 A156 F163) A156 (hw _ (List.mem_of_getElem? (i := 57) rfl)) (hw _ (List.mem_of_getElem? (i := 58) rfl)) (hw _ (List.mem_of_getElem? (i := 60) rfl)) (hw _ (List.mem_of_getElem? (i := 59) rfl)) (hw _ (List.mem_of_getElem? (i := 28) rfl)) (hw _ (List.mem_of_getElem? (i := 61) rfl)) (by decide) (by decide) 0 (by decide) rfl own_pd7 rfl rfl (Nat.le_of_eq rfl) (by decide) (by decide) at_130 (pc' := 133) rfl rfl fun T188 h189 lc190 r191 X192 Q193 => ?_
        obtain ⟨rfl, e194⟩ := Q193
        replace e194 := e194.symm
        subst e194
        show own_E p e below _ (T188.setTop (mkF m 133 #[.val (.long q1), .second, .val (.int p2), .val (.long q3), .second, .val (.int p4), .val (.ref b7), .val (.ref b19), .val (.ref b33), .val (.ref b49), .val (.ref b61), .val (.ref b105), .val (.int (own_j0_110 p2))] [(.int (own_F9 p2))]))
        refine own_iloadN X192 at_133 (pc' := 134) rfl (v := p2) rfl ?_
        by_cases hc195 : (own_F9 p2) = p2
        · refine own_icmpN X192 at_134 (teq hc195).2 (pc' := 137) rfl ?_
          refine own_iconst X192 at_137 (pc' := 138) rfl (z := (1 : Int32)) rfl ?_
          refine own_goto X192 at_138 (by decide) (pc' := 142) rfl ?_
          refine own_iret X192 (t := .boolean) (w := (1 : Int32)) hret (by simp) at_142 rfl (by decide) (by decide) ?_
          exact congrArg (fun t => some (Value.int t)) (show (1 : Int32) = own_F0 q1 p2 q3 p4 w0 from (by rw [own_F0, if_pos hc179, if_pos hc187, if_pos hc195]))
        · refine own_icmpY X192 at_134 (feq hc195).2 (by decide) (pc' := 141) rfl ?_
          refine own_iconst X192 at_141 (pc' := 142) rfl (z := (0 : Int32)) rfl ?_
          refine own_iret X192 (t := .boolean) (w := (0 : Int32)) hret (by simp) at_142 rfl (by decide) (by decide) ?_
          exact congrArg (fun t => some (Value.int t)) (show (0 : Int32) = own_F0 q1 p2 q3 p4 w0 from (by rw [own_F0, if_pos hc179, if_pos hc187, if_neg hc195]))
      · refine own_ifY X184 at_125 (feq hc187).2 (by decide) (pc' := 141) rfl ?_
        refine own_iconst X184 at_141 (pc' := 142) rfl (z := (0 : Int32)) rfl ?_
        refine own_iret X184 (t := .boolean) (w := (0 : Int32)) hret (by simp) at_142 rfl (by decide) (by decide) ?_
        exact congrArg (fun t => some (Value.int t)) (show (0 : Int32) = own_F0 q1 p2 q3 p4 w0 from (by rw [own_F0, if_pos hc179, if_neg hc187]))
    · refine own_icmpY X176 at_117 (feq hc179).2 (by decide) (pc' := 141) rfl ?_
      refine own_iconst X176 at_141 (pc' := 142) rfl (z := (0 : Int32)) rfl ?_
      refine own_iret X176 (t := .boolean) (w := (0 : Int32)) hret (by simp) at_142 rfl (by decide) (by decide) ?_
      exact congrArg (fun t => some (Value.int t)) (show (0 : Int32) = own_F0 q1 p2 q3 p4 w0 from (by rw [own_F0, if_neg hc179]))
  by_cases hc165 : p2 = (0 : Int32)
  · refine own_ifN X142 at_98 (teq hc165).2 (pc' := 101) rfl ?_
    refine own_iconst X142 at_101 (pc' := 102) rfl (z := (0 : Int32)) rfl ?_
    refine own_istore X142 at_102 (pc' := 104) rfl (y := (0 : Int32)) rfl (Ls' := #[.val (.long q1), .second, .val (.int p2), .val (.long q3), .second, .val (.int p4), .val (.ref b7), .val (.ref b19), .val (.ref b33), .val (.ref b49), .val (.ref b61), .val (.ref b105), .val (.int (0 : Int32))]) rfl ?_
    refine own_goto X142 at_104 (by decide) (pc' := 110) rfl ?_
    have K168_ := K168 T138 _ X142
    have q196 : (own_j0_110 p2) = (0 : Int32) := by rw [own_j0_110, if_pos hc165]
    rw [q196] at K168_
    exact K168_
  · refine own_ifY X142 at_98 (feq hc165).2 (by decide) (pc' := 107) rfl ?_
    refine own_iconst X142 at_107 (pc' := 108) rfl (z := (1 : Int32)) rfl ?_
    refine own_istore X142 at_108 (pc' := 110) rfl (y := (1 : Int32)) rfl (Ls' := #[.val (.long q1), .second, .val (.int p2), .val (.long q3), .second, .val (.int p4), .val (.ref b7), .val (.ref b19), .val (.ref b33), .val (.ref b49), .val (.ref b61), .val (.ref b105), .val (.int (1 : Int32))]) rfl ?_
    have K168_ := K168 T138 _ X142
    have q197 : (own_j0_110 p2) = (1 : Int32) := by rw [own_j0_110, if_neg hc165]
    rw [q197] at K168_
    exact K168_
theorem own_plain (q1 : Int64) (p2 : Int32) (q3 : Int64) (p4 w0 : Int32) : own_F0 q1 p2 q3 p4 w0 = 1 := by
  rw [own_F0]
  exact own_yes rfl (own_yes rfl (own_yes rfl rfl))
set_option maxRecDepth 65536 in
set_option maxHeartbeats 40000000 in
theorem own_comes {Post : Tables → Env → Array Value → State → Outcome → State → Prop} (hpost : ∀ tb e args s v u, (limb_1_1.after args s (.returned v) u = true ∧ limb_1_2.after args s (.returned v) u = true) → FrameEnd s (.returned v) u (Jvm.fieldLocs frame_1_writes args s ++ Jvm.arrayLocs frame_1_arrays args s ++ Jvm.staticLocs frame_1_statics s) 32 192 → Post tb e args s (.returned v) u) :
    ArmFor flags0 classFile x code maxLocals ret World_1 tables_1 room_1 Calls_1 rest_1 Pre_1 Post := by
  intro l hfl _ _ p e ha hc hk s m args below hf hA hF happ hP
  obtain ⟨hcalls, hrest, hpre⟩ := hP
  obtain ⟨-, -, -, hnamed, -, -, -, hat⟩ := (Spec.applies_iff hf).mp happ
  obtain ⟨hg, hn⟩ := and_e (Cond.before_iff.mp (show (Jvm.Cond.and given_1 narrow_1).before args s = true from hpre))
  obtain ⟨g1, g2⟩ := and_e hg
  obtain ⟨g3, g4⟩ := and_e g2
  obtain ⟨g5, g6⟩ := and_e g4
  obtain ⟨g7, g8⟩ := and_e g6
  obtain ⟨w0, w1, w2, w3, rfl⟩ : ∃ w0 w1 w2 w3 : Value, args = #[w0, w1, w2, w3] := by
    have hs : args.size = 4 := by simpa [Cond.value, given_1] using g1
    obtain ⟨L⟩ := args
    match L, hs with
    | [w0, w1, w2, w3], _ => exact ⟨w0, w1, w2, w3, rfl⟩
  have hw := fun d (hd : d ∈ tables_1) => atoms_spec (ws := Jvm.Cond.code x code maxLocals ret :: tables_1) hat d (List.mem_cons_of_mem _ hd)
  obtain ⟨i0, ei0⟩ := isL_v g3
  obtain rfl : w0 = (.long i0) := Option.some.inj ei0
  obtain ⟨i1, ei1⟩ := is_v g5
  obtain rfl : w1 = (.int i1) := Option.some.inj ei1
  obtain ⟨i2, ei2⟩ := isL_v g7
  obtain rfl : w2 = (.long i2) := Option.some.inj ei2
  obtain ⟨i3, ei3⟩ := is_v g8
  obtain rfl : w3 = (.int i3) := Option.some.inj ei3
  obtain ⟨hsets, hown0⟩ := atoms_of _ (rest_1_c_eq ▸ (show rest_1_c.before _ s = true from hrest))
  have n3 := not_v (Cond.before_iff.mp (hsets _ (List.mem_of_getElem? (i := 2) rfl)))
  obtain ⟨i7, e6⟩ := is_v (Cond.before_iff.mp (hsets _ (List.mem_of_getElem? (i := 1) rfl)))
  have S8 : Sta s s.heap "java/lang/String" "COMPACT_STRINGS" "Z" (.int i7) := Sta.start e6 (Or.inl (hsets _ (List.mem_of_getElem? (i := 0) rfl)))
  have c9 : ¬ (i7 = (0 : Int32)) := gotF (Cond.eq_ints e6 (Term.int_eval (0))) n3
  obtain ⟨n, o, h1, h2, h3, v, L, rfl, ⟨hq1, N, _⟩, hq⟩ := own_rm0 l s _ hw i0 i1 i2 i3 i7 s.heap s.heap.size (Nat.le_refl _) S8 c9 tables_1 p e ha hc hk s m _ below hf ((Spec.applies_iff_loose hf).mp happ).1 ⟨rfl, State.Warmed39.refl s, rfl⟩ trivial
  obtain rfl : v = some (.int 1) := by rw [hq1, own_plain i0 i1 i2 i3 i7]
  exact ⟨n, _, h1, h2, h3, hpost _ _ _ _ _ _ ⟨Cond.after_iff.mpr rfl, Cond.after_iff.mpr (eq_i res_at (Term.int_eval (1)) rfl)⟩ ⟨hq.1, hq.2.1, (hq.2.2.sift fun y hy => Or.inr (N y hy)).mono (by decide) (by decide)⟩⟩
theorem main_1_1 : Claimed_1_1 := own_comes fun _ _ _ _ _ _ h hF => ⟨h.1, hF⟩
theorem main_1_2 : Claimed_1_2 := own_comes fun _ _ _ _ _ _ h hF => ⟨h.2, hF⟩
end Jvm.Pilot.@@N@@
namespace Jvm.Pilot.@@N@@
open Jvm Jvm.ClassFile Sem Op Lib Jvm.Free Jvm.Stand Jvm.Pilot.@@N@@.Jvm.D
/-! MADE BY PROGRAM (witnessworld.py) out of the Statement's table words and the real class files: 18 classes; the members and pool entries that the words name. The judged class is class 1, her method 1. -/
namespace start1
open Jvm.ClassFile
def u (s : String) : CpInfo := .utf8 (stringToUtf16 s)
/-- a pool by its gaps: so many unusable entries, then the entry; so many at the end -/
def gap : Nat → List CpInfo → List CpInfo
  | 0, r => r
  | n + 1, r => .unusable :: gap n r
def poolList (es : List (Nat × CpInfo)) (last : Nat) : List CpInfo := es.foldr (fun e r => gap e.1 (e.2 :: r)) (gap last [])
def pool (es : List (Nat × CpInfo)) (last : Nat) : Array CpInfo := ⟨poolList es last⟩
def fileOf (pool : Array CpInfo) (this : Nat) (attrs : Array Attribute := #[]) (ms : Array MethodInfo := #[]) (fl : Nat := 33) (sup : Nat := 0) (ifs : Array Nat := #[]) (fds : Array FieldInfo := #[]) : ClassFile where
  minorVersion := 0
  majorVersion := 65
  constantPool := pool
  accessFlags := fl
  thisClass := this
  superClass := sup
  interfaces := ifs
  fields := fds
  methods := ms
  attributes := attrs
def plain (name : String) (sup : Option ClassId) : Class where
  name := name
  kind := .ordinary
  loader := none
  accessFlags := 33
  super := sup
  interfaces := #[]
  cf := none
  fields := #[]
  methods := #[]
  instanceTypes := #[]
  staticTypes := #[]
  resolved := #[]
  callSites := []
  init := .initialized
  statics := none
  mirror := none

def pool0 : Array CpInfo := pool [(5, u "<init>"), (0, u "()V"), (1, .class_ 10), (1, u "java/lang/Object")] 113

def k0c0 : Code := { maxStack := 0, maxLocals := 1, code := object_method_1_code, exceptionTable := #[], attributes := #[] }
def k0m0 : Method := { name := "<init>", desc := "()V", sig := { parameters := [], returnType := none }, accessFlags := 1, code := some k0c0 }
/-- java/lang/Object -/
def k0 : Class := { plain "java/lang/Object" none with
  accessFlags := 33
  interfaces := #[]
  cf := some (fileOf pool0 8 #[] #[{ accessFlags := 1, nameIndex := 5, descriptorIndex := 6, attributes := #[] }] 33 0 #[] #[])
  fields := #[]
  methods := #[k0m0]
  instanceTypes := #[]
  staticTypes := #[]
  resolved := Array.replicate 124 none
  statics := none }

def pool1 : Array CpInfo := pool [(2, .class_ 4), (1, u "java/lang/Object"), (0, u "<init>"), (0, u "()V"), (0, .methodref 8 9), (0, .class_ 10), (0, .nameAndType 11 12), (0, u "java/lang/String"), (0, u "valueOf"), (0, u "(C)Ljava/lang/String;"), (0, .class_ 14), (0, u "com/example/moratuwa/moratuwa/replay/Exchange"), (0, .methodref 13 16), (0, .nameAndType 5 17), (0, u "(JLjava/lang/String;Ljava/lang/String;Ljava/lang/String;Ljava/lang/String;IJ)V"), (0, .methodref 13 19), (0, .nameAndType 20 21), (0, u "answered"), (0, u "()Z"), (0, .methodref 13 23), (0, .nameAndType 24 25), (0, u "status"), (0, u "()I"), (0, .class_ 27), (0, u "com/example/moratuwa/moratuwa/replay/ExchangeAnsweredPinLaw"), (2, u "law"), (0, u "(JIJI)Z")] 3

def k1m0 : Method := { name := "<init>", desc := "()V", sig := { parameters := [], returnType := none }, accessFlags := 1, code := none }
def k1c1 : Code := { maxStack := 11, maxLocals := 13, code := code, exceptionTable := #[], attributes := #[] }
def k1m1 : Method := { name := "law", desc := "(JIJI)Z", sig := { parameters := [.long, .int, .long, .int], returnType := some .boolean }, accessFlags := 9, code := some k1c1 }
/-- com/example/moratuwa/moratuwa/replay/ExchangeAnsweredPinLaw -/
def k1 : Class := { plain "com/example/moratuwa/moratuwa/replay/ExchangeAnsweredPinLaw" (some 0) with
  accessFlags := 49
  interfaces := #[]
  cf := some (fileOf pool1 26 #[] #[{ accessFlags := 1, nameIndex := 5, descriptorIndex := 6, attributes := #[] }, { accessFlags := 9, nameIndex := 30, descriptorIndex := 31, attributes := #[] }] 49 2 #[] #[])
  fields := #[]
  methods := #[k1m0, k1m1]
  instanceTypes := #[]
  staticTypes := #[]
  resolved := Array.replicate 35 none
  statics := none }

def pool2 : Array CpInfo := pool [(1, .class_ 2), (0, u "java/io/Serializable"), (0, .class_ 4), (0, u "java/lang/Object")] 2

/-- java/io/Serializable -/
def k2 : Class := { plain "java/io/Serializable" (some 0) with
  accessFlags := 1537
  interfaces := #[]
  cf := some (fileOf pool2 1 #[] #[] 1537 3 #[] #[])
  fields := #[]
  methods := #[]
  instanceTypes := #[]
  staticTypes := #[]
  resolved := Array.replicate 7 none
  statics := none }

def pool3 : Array CpInfo := pool [(1, .class_ 2), (0, u "java/lang/Comparable"), (0, .class_ 4), (0, u "java/lang/Object")] 7

/-- java/lang/Comparable -/
def k3 : Class := { plain "java/lang/Comparable" (some 0) with
  accessFlags := 1537
  interfaces := #[]
  cf := some (fileOf pool3 1 #[] #[] 1537 3 #[] #[])
  fields := #[]
  methods := #[]
  instanceTypes := #[]
  staticTypes := #[]
  resolved := Array.replicate 12 none
  statics := none }

def pool4 : Array CpInfo := pool [(2, .class_ 4), (1, u "java/lang/CharSequence"), (42, .class_ 48), (0, u "java/lang/CharSequence$1CodePointIterator"), (10, .class_ 60), (0, u "java/lang/CharSequence$1CharIterator"), (5, .class_ 67), (0, u "java/lang/Object")] 63

/-- java/lang/CharSequence -/
def k4 : Class := { plain "java/lang/CharSequence" (some 0) with
  accessFlags := 1537
  interfaces := #[]
  cf := some (fileOf pool4 2 #[.nestMembers #[47, 59]] #[] 1537 66 #[] #[])
  fields := #[]
  methods := #[]
  instanceTypes := #[]
  staticTypes := #[]
  resolved := Array.replicate 131 none
  statics := none }

def pool5 : Array CpInfo := pool [(1, .class_ 2), (0, u "java/lang/constant/Constable"), (0, .class_ 4), (0, u "java/lang/Object")] 6

/-- java/lang/constant/Constable -/
def k5 : Class := { plain "java/lang/constant/Constable" (some 0) with
  accessFlags := 1537
  interfaces := #[]
  cf := some (fileOf pool5 1 #[] #[] 1537 3 #[] #[])
  fields := #[]
  methods := #[]
  instanceTypes := #[]
  staticTypes := #[]
  resolved := Array.replicate 11 none
  statics := none }

def pool6 : Array CpInfo := pool [(1, .class_ 2), (0, u "java/lang/constant/ConstantDesc"), (0, .class_ 4), (0, u "java/lang/Object")] 32

/-- java/lang/constant/ConstantDesc -/
def k6 : Class := { plain "java/lang/constant/ConstantDesc" (some 0) with
  accessFlags := 1537
  interfaces := #[]
  cf := some (fileOf pool6 1 #[] #[] 1537 3 #[] #[])
  fields := #[]
  methods := #[]
  instanceTypes := #[]
  staticTypes := #[]
  resolved := Array.replicate 37 none
  statics := none }

def pool7 : Array CpInfo := pool [(1, .methodref 2 3), (0, .class_ 4), (0, .nameAndType 5 6), (0, u "java/lang/Object"), (0, u "<init>"), (0, u "()V"), (2, .fieldref 10 11), (0, .class_ 12), (0, .nameAndType 13 14), (0, u "java/lang/String"), (0, u "value"), (0, u "[B"), (0, .fieldref 10 16), (0, .nameAndType 17 18), (0, u "coder"), (0, u "B"), (2, u "hash"), (0, u "I"), (2, u "hashIsZero"), (0, u "Z"), (11, .fieldref 10 39), (0, .nameAndType 40 26), (0, u "COMPACT_STRINGS"), (12, u "toBytes"), (53, .class_ 109), (1, u "java/lang/StringLatin1"), (99, .methodref 10 210), (0, .nameAndType 5 211), (0, u "([BB)V"), (157, u "(C)Z"), (205, .class_ 576), (0, u "java/lang/CharSequence"), (22, u "CASE_INSENSITIVE_ORDER"), (0, u "Ljava/util/Comparator;"), (181, u "valueOf"), (0, u "(C)Ljava/lang/String;"), (231, .methodref 107 1016), (0, .nameAndType 1017 369), (0, u "canEncode"), (0, .methodref 107 1019), (0, .nameAndType 53 1020), (0, u "(C)[B"), (80, u "serialPersistentFields"), (0, u "[Ljava/io/ObjectStreamField;"), (0, .class_ 1104), (0, u "java/lang/String$CaseInsensitiveComparator"), (1, .class_ 1107), (0, u "java/io/Serializable"), (0, .class_ 1109), (0, u "java/lang/Comparable"), (0, .class_ 1111), (0, u "java/lang/constant/Constable"), (0, .class_ 1113), (0, u "java/lang/constant/ConstantDesc"), (2, u "serialVersionUID"), (0, u "J"), (3, u "REPL"), (0, u "C"), (2, u "LATIN1"), (1, u "UTF16")] 323

def k7m0 : Method := { name := "<init>", desc := "()V", sig := { parameters := [], returnType := none }, accessFlags := 1, code := none }
def k7c1 : Code := { maxStack := 4, maxLocals := 1, code := jdk_42_method_139_code, exceptionTable := #[], attributes := #[] }
def k7m1 : Method := { name := "valueOf", desc := "(C)Ljava/lang/String;", sig := { parameters := [.char], returnType := some (.object "java/lang/String") }, accessFlags := 9, code := some k7c1 }
def k7c2 : Code := { maxStack := 2, maxLocals := 3, code := jdk_42_method_151_code, exceptionTable := #[], attributes := #[] }
def k7m2 : Method := { name := "<init>", desc := "([BB)V", sig := { parameters := [(.array .byte), .byte], returnType := none }, accessFlags := 0, code := some k7c2 }
/-- java/lang/String -/
def k7 : Class := { plain "java/lang/String" (some 0) with
  accessFlags := 49
  interfaces := #[2, 3, 4, 5, 6]
  cf := some (fileOf pool7 10 #[.nestMembers #[1103]] #[{ accessFlags := 1, nameIndex := 5, descriptorIndex := 6, attributes := #[] }, { accessFlags := 9, nameIndex := 782, descriptorIndex := 783, attributes := #[] }, { accessFlags := 0, nameIndex := 5, descriptorIndex := 211, attributes := #[] }] 49 2 #[1106, 1108, 575, 1110, 1112] #[{ accessFlags := 18, nameIndex := 13, descriptorIndex := 14, attributes := #[] }, { accessFlags := 18, nameIndex := 17, descriptorIndex := 18, attributes := #[] }, { accessFlags := 2, nameIndex := 21, descriptorIndex := 22, attributes := #[] }, { accessFlags := 2, nameIndex := 25, descriptorIndex := 26, attributes := #[] }, { accessFlags := 26, nameIndex := 1116, descriptorIndex := 1117, attributes := #[] }, { accessFlags := 24, nameIndex := 40, descriptorIndex := 26, attributes := #[] }, { accessFlags := 26, nameIndex := 1101, descriptorIndex := 1102, attributes := #[] }, { accessFlags := 26, nameIndex := 1121, descriptorIndex := 1122, attributes := #[] }, { accessFlags := 25, nameIndex := 599, descriptorIndex := 600, attributes := #[] }, { accessFlags := 24, nameIndex := 1125, descriptorIndex := 18, attributes := #[] }, { accessFlags := 24, nameIndex := 1127, descriptorIndex := 18, attributes := #[] }])
  fields := #[{ name := "value", type := (.array .byte), accessFlags := 18, slot := 0, constantValue := 0 }, { name := "coder", type := .byte, accessFlags := 18, slot := 1, constantValue := 0 }, { name := "hash", type := .int, accessFlags := 2, slot := 2, constantValue := 0 }, { name := "hashIsZero", type := .boolean, accessFlags := 2, slot := 3, constantValue := 0 }, { name := "serialVersionUID", type := .long, accessFlags := 26, slot := 0, constantValue := 0 }, { name := "COMPACT_STRINGS", type := .boolean, accessFlags := 24, slot := 1, constantValue := 0 }, { name := "serialPersistentFields", type := (.array (.object "java/io/ObjectStreamField")), accessFlags := 26, slot := 2, constantValue := 0 }, { name := "REPL", type := .char, accessFlags := 26, slot := 3, constantValue := 0 }, { name := "CASE_INSENSITIVE_ORDER", type := (.object "java/util/Comparator"), accessFlags := 25, slot := 4, constantValue := 0 }, { name := "LATIN1", type := .byte, accessFlags := 24, slot := 5, constantValue := 0 }, { name := "UTF16", type := .byte, accessFlags := 24, slot := 6, constantValue := 0 }]
  methods := #[k7m0, k7m1, k7m2]
  instanceTypes := #[(.array .byte), .byte, .int, .boolean]
  staticTypes := #[.long, .boolean, (.array (.object "java/io/ObjectStreamField")), .char, (.object "java/util/Comparator"), .byte, .byte]
  resolved := Array.replicate 1451 none
  statics := some 0 }

def pool8 : Array CpInfo := pool [(4, .class_ 6), (1, u "java/lang/Object"), (0, u "<init>"), (0, u "()V"), (5, .class_ 16), (1, u "java/lang/StringLatin1"), (73, u "canEncode"), (14, u "(C)Z"), (15, u "$assertionsDisabled"), (0, u "Z"), (98, .class_ 223), (1, u "java/lang/StringLatin1$LinesSpliterator"), (156, u "toBytes"), (1, u "(C)[B"), (7, .class_ 391), (0, u "java/lang/StringLatin1$CharsSpliterator")] 3

def k8m0 : Method := { name := "<init>", desc := "()V", sig := { parameters := [], returnType := none }, accessFlags := 0, code := none }
def k8c1 : Code := { maxStack := 2, maxLocals := 1, code := jdk_43_method_3_code, exceptionTable := #[], attributes := #[] }
def k8m1 : Method := { name := "canEncode", desc := "(C)Z", sig := { parameters := [.char], returnType := some .boolean }, accessFlags := 9, code := some k8c1 }
def k8c2 : Code := { maxStack := 4, maxLocals := 1, code := jdk_43_method_46_code, exceptionTable := #[], attributes := #[] }
def k8m2 : Method := { name := "toBytes", desc := "(C)[B", sig := { parameters := [.char], returnType := some (.array .byte) }, accessFlags := 9, code := some k8c2 }
/-- java/lang/StringLatin1 -/
def k8 : Class := { plain "java/lang/StringLatin1" (some 0) with
  accessFlags := 48
  interfaces := #[]
  cf := some (fileOf pool8 14 #[.nestMembers #[390, 221]] #[{ accessFlags := 0, nameIndex := 7, descriptorIndex := 8, attributes := #[] }, { accessFlags := 9, nameIndex := 90, descriptorIndex := 105, attributes := #[] }, { accessFlags := 9, nameIndex := 380, descriptorIndex := 382, attributes := #[] }] 48 4 #[] #[{ accessFlags := 4120, nameIndex := 121, descriptorIndex := 122, attributes := #[] }])
  fields := #[{ name := "$assertionsDisabled", type := .boolean, accessFlags := 4120, slot := 0, constantValue := 0 }]
  methods := #[k8m0, k8m1, k8m2]
  instanceTypes := #[]
  staticTypes := #[.boolean]
  resolved := Array.replicate 395 none
  statics := none }

def pool9 : Array CpInfo := pool [(1, .methodref 2 3), (0, .class_ 4), (0, .nameAndType 5 6), (0, u "java/lang/Object"), (0, u "<init>"), (0, u "()V"), (0, .class_ 8), (0, u "java/lang/Record")] 13

def k9c0 : Code := { maxStack := 1, maxLocals := 1, code := jdk_30_method_1_code, exceptionTable := #[], attributes := #[] }
def k9m0 : Method := { name := "<init>", desc := "()V", sig := { parameters := [], returnType := none }, accessFlags := 4, code := some k9c0 }
/-- java/lang/Record -/
def k9 : Class := { plain "java/lang/Record" (some 0) with
  accessFlags := 1057
  interfaces := #[]
  cf := some (fileOf pool9 7 #[] #[{ accessFlags := 4, nameIndex := 5, descriptorIndex := 6, attributes := #[] }] 1057 2 #[] #[])
  fields := #[]
  methods := #[k9m0]
  instanceTypes := #[]
  staticTypes := #[]
  resolved := Array.replicate 22 none
  statics := none }

def pool10 : Array CpInfo := pool [(1, .methodref 2 3), (0, .class_ 4), (0, .nameAndType 5 6), (0, u "java/lang/Record"), (0, u "<init>"), (0, u "()V"), (0, .fieldref 8 9), (0, .class_ 10), (0, .nameAndType 11 12), (0, u "com/example/moratuwa/moratuwa/replay/Exchange"), (0, u "sentMicros"), (0, u "J"), (0, .fieldref 8 14), (0, .nameAndType 15 16), (0, u "target"), (0, u "Ljava/lang/String;"), (0, .fieldref 8 18), (0, .nameAndType 19 16), (0, u "client"), (0, .fieldref 8 21), (0, .nameAndType 22 16), (0, u "method"), (0, .fieldref 8 24), (0, .nameAndType 25 16), (0, u "path"), (0, .fieldref 8 27), (0, .nameAndType 28 29), (0, u "status"), (0, u "I"), (0, .fieldref 8 31), (0, .nameAndType 32 12), (0, u "latencyMicros"), (35, u "NO_ANSWER"), (2, u "(JLjava/lang/String;Ljava/lang/String;Ljava/lang/String;Ljava/lang/String;IJ)V"), (3, u "answered"), (0, u "()Z"), (2, u "()I")] 28

def k10c0 : Code := { maxStack := 3, maxLocals := 10, code := prog_39_method_1_code, exceptionTable := #[], attributes := #[] }
def k10m0 : Method := { name := "<init>", desc := "(JLjava/lang/String;Ljava/lang/String;Ljava/lang/String;Ljava/lang/String;IJ)V", sig := { parameters := [.long, (.object "java/lang/String"), (.object "java/lang/String"), (.object "java/lang/String"), (.object "java/lang/String"), .int, .long], returnType := none }, accessFlags := 1, code := some k10c0 }
def k10c1 : Code := { maxStack := 1, maxLocals := 1, code := prog_39_method_2_code, exceptionTable := #[], attributes := #[] }
def k10m1 : Method := { name := "answered", desc := "()Z", sig := { parameters := [], returnType := some .boolean }, accessFlags := 1, code := some k10c1 }
def k10c2 : Code := { maxStack := 1, maxLocals := 1, code := prog_39_method_12_code, exceptionTable := #[], attributes := #[] }
def k10m2 : Method := { name := "status", desc := "()I", sig := { parameters := [], returnType := some .int }, accessFlags := 1, code := some k10c2 }
/-- com/example/moratuwa/moratuwa/replay/Exchange -/
def k10 : Class := { plain "com/example/moratuwa/moratuwa/replay/Exchange" (some 9) with
  accessFlags := 49
  interfaces := #[]
  cf := some (fileOf pool10 8 #[] #[{ accessFlags := 1, nameIndex := 5, descriptorIndex := 71, attributes := #[] }, { accessFlags := 1, nameIndex := 75, descriptorIndex := 76, attributes := #[] }, { accessFlags := 1, nameIndex := 28, descriptorIndex := 79, attributes := #[] }] 49 2 #[] #[{ accessFlags := 18, nameIndex := 11, descriptorIndex := 12, attributes := #[] }, { accessFlags := 18, nameIndex := 15, descriptorIndex := 16, attributes := #[] }, { accessFlags := 18, nameIndex := 19, descriptorIndex := 16, attributes := #[] }, { accessFlags := 18, nameIndex := 22, descriptorIndex := 16, attributes := #[] }, { accessFlags := 18, nameIndex := 25, descriptorIndex := 16, attributes := #[] }, { accessFlags := 18, nameIndex := 28, descriptorIndex := 29, attributes := #[] }, { accessFlags := 18, nameIndex := 32, descriptorIndex := 12, attributes := #[] }, { accessFlags := 25, nameIndex := 68, descriptorIndex := 29, attributes := #[] }])
  fields := #[{ name := "sentMicros", type := .long, accessFlags := 18, slot := 0, constantValue := 0 }, { name := "target", type := (.object "java/lang/String"), accessFlags := 18, slot := 1, constantValue := 0 }, { name := "client", type := (.object "java/lang/String"), accessFlags := 18, slot := 2, constantValue := 0 }, { name := "method", type := (.object "java/lang/String"), accessFlags := 18, slot := 3, constantValue := 0 }, { name := "path", type := (.object "java/lang/String"), accessFlags := 18, slot := 4, constantValue := 0 }, { name := "status", type := .int, accessFlags := 18, slot := 5, constantValue := 0 }, { name := "latencyMicros", type := .long, accessFlags := 18, slot := 6, constantValue := 0 }, { name := "NO_ANSWER", type := .int, accessFlags := 25, slot := 0, constantValue := 0 }]
  methods := #[k10m0, k10m1, k10m2]
  instanceTypes := #[.long, (.object "java/lang/String"), (.object "java/lang/String"), (.object "java/lang/String"), (.object "java/lang/String"), .int, .long]
  staticTypes := #[.int]
  resolved := Array.replicate 108 none
  statics := none }

def pool11 : Array CpInfo := pool [(2, .class_ 4), (1, u "java/lang/Object"), (0, u "<init>"), (0, u "()V"), (17, .class_ 26), (1, u "jdk/internal/util/Preconditions"), (28, .class_ 56), (0, u "jdk/internal/util/Preconditions$4"), (57, .class_ 115), (0, u "jdk/internal/util/Preconditions$1"), (7, u "SIOOBE_FORMATTER"), (0, u "Ljava/util/function/BiFunction;"), (0, .class_ 126), (0, u "jdk/internal/util/Preconditions$2"), (3, u "AIOOBE_FORMATTER"), (0, .class_ 132), (0, u "jdk/internal/util/Preconditions$3"), (3, u "IOOBE_FORMATTER")] 57

def k11m0 : Method := { name := "<init>", desc := "()V", sig := { parameters := [], returnType := none }, accessFlags := 1, code := none }
/-- jdk/internal/util/Preconditions -/
def k11 : Class := { plain "jdk/internal/util/Preconditions" (some 0) with
  accessFlags := 33
  interfaces := #[]
  cf := some (fileOf pool11 24 #[.nestMembers #[55, 131, 125, 114]] #[{ accessFlags := 1, nameIndex := 5, descriptorIndex := 6, attributes := #[] }] 33 2 #[] #[{ accessFlags := 25, nameIndex := 123, descriptorIndex := 124, attributes := #[] }, { accessFlags := 25, nameIndex := 130, descriptorIndex := 124, attributes := #[] }, { accessFlags := 25, nameIndex := 136, descriptorIndex := 124, attributes := #[] }])
  fields := #[{ name := "SIOOBE_FORMATTER", type := (.object "java/util/function/BiFunction"), accessFlags := 25, slot := 0, constantValue := 0 }, { name := "AIOOBE_FORMATTER", type := (.object "java/util/function/BiFunction"), accessFlags := 25, slot := 1, constantValue := 0 }, { name := "IOOBE_FORMATTER", type := (.object "java/util/function/BiFunction"), accessFlags := 25, slot := 2, constantValue := 0 }]
  methods := #[k11m0]
  instanceTypes := #[]
  staticTypes := #[(.object "java/util/function/BiFunction"), (.object "java/util/function/BiFunction"), (.object "java/util/function/BiFunction")]
  resolved := Array.replicate 194 none
  statics := some 1 }

def pool12 : Array CpInfo := pool [(9, u "<init>"), (6, .class_ 18), (1, u "java/lang/Object"), (0, u "()V"), (1, .class_ 23), (1, u "jdk/internal/util/ArraysSupport"), (0, u "LOG2_ARRAY_LONG_INDEX_SCALE"), (0, u "I"), (2, u "U"), (0, u "Ljdk/internal/misc/Unsafe;"), (8, u "BIG_ENDIAN"), (0, u "Z"), (8, u "LOG2_BYTE_BIT_SIZE"), (4, u "LOG2_ARRAY_INT_INDEX_SCALE"), (54, u "JLA"), (0, u "Ljdk/internal/access/JavaLangAccess;"), (11, u "LOG2_ARRAY_BOOLEAN_INDEX_SCALE"), (9, u "LOG2_ARRAY_BYTE_INDEX_SCALE"), (5, u "LOG2_ARRAY_CHAR_INDEX_SCALE"), (5, u "LOG2_ARRAY_SHORT_INDEX_SCALE"), (18, u "LOG2_ARRAY_FLOAT_INDEX_SCALE"), (24, u "LOG2_ARRAY_DOUBLE_INDEX_SCALE"), (89, u "T_BOOLEAN"), (2, u "T_CHAR"), (1, u "T_FLOAT"), (1, u "T_DOUBLE"), (1, u "T_BYTE"), (1, u "T_SHORT"), (1, u "T_INT"), (1, u "T_LONG"), (1, u "SOFT_MAX_ARRAY_LENGTH")] 83

def k12m0 : Method := { name := "<init>", desc := "()V", sig := { parameters := [], returnType := none }, accessFlags := 2, code := none }
/-- jdk/internal/util/ArraysSupport -/
def k12 : Class := { plain "jdk/internal/util/ArraysSupport" (some 0) with
  accessFlags := 33
  interfaces := #[]
  cf := some (fileOf pool12 21 #[] #[{ accessFlags := 2, nameIndex := 9, descriptorIndex := 19, attributes := #[] }] 33 16 #[] #[{ accessFlags := 24, nameIndex := 28, descriptorIndex := 29, attributes := #[] }, { accessFlags := 26, nameIndex := 38, descriptorIndex := 39, attributes := #[] }, { accessFlags := 25, nameIndex := 121, descriptorIndex := 25, attributes := #[] }, { accessFlags := 25, nameIndex := 131, descriptorIndex := 25, attributes := #[] }, { accessFlags := 25, nameIndex := 137, descriptorIndex := 25, attributes := #[] }, { accessFlags := 25, nameIndex := 143, descriptorIndex := 25, attributes := #[] }, { accessFlags := 25, nameIndex := 53, descriptorIndex := 25, attributes := #[] }, { accessFlags := 25, nameIndex := 24, descriptorIndex := 25, attributes := #[] }, { accessFlags := 25, nameIndex := 162, descriptorIndex := 25, attributes := #[] }, { accessFlags := 25, nameIndex := 187, descriptorIndex := 25, attributes := #[] }, { accessFlags := 26, nameIndex := 48, descriptorIndex := 25, attributes := #[] }, { accessFlags := 25, nameIndex := 277, descriptorIndex := 25, attributes := #[] }, { accessFlags := 25, nameIndex := 280, descriptorIndex := 25, attributes := #[] }, { accessFlags := 25, nameIndex := 282, descriptorIndex := 25, attributes := #[] }, { accessFlags := 25, nameIndex := 284, descriptorIndex := 25, attributes := #[] }, { accessFlags := 25, nameIndex := 286, descriptorIndex := 25, attributes := #[] }, { accessFlags := 25, nameIndex := 288, descriptorIndex := 25, attributes := #[] }, { accessFlags := 25, nameIndex := 290, descriptorIndex := 25, attributes := #[] }, { accessFlags := 25, nameIndex := 292, descriptorIndex := 25, attributes := #[] }, { accessFlags := 26, nameIndex := 108, descriptorIndex := 109, attributes := #[] }, { accessFlags := 25, nameIndex := 294, descriptorIndex := 25, attributes := #[] }])
  fields := #[{ name := "U", type := (.object "jdk/internal/misc/Unsafe"), accessFlags := 24, slot := 0, constantValue := 0 }, { name := "BIG_ENDIAN", type := .boolean, accessFlags := 26, slot := 1, constantValue := 0 }, { name := "LOG2_ARRAY_BOOLEAN_INDEX_SCALE", type := .int, accessFlags := 25, slot := 2, constantValue := 0 }, { name := "LOG2_ARRAY_BYTE_INDEX_SCALE", type := .int, accessFlags := 25, slot := 3, constantValue := 0 }, { name := "LOG2_ARRAY_CHAR_INDEX_SCALE", type := .int, accessFlags := 25, slot := 4, constantValue := 0 }, { name := "LOG2_ARRAY_SHORT_INDEX_SCALE", type := .int, accessFlags := 25, slot := 5, constantValue := 0 }, { name := "LOG2_ARRAY_INT_INDEX_SCALE", type := .int, accessFlags := 25, slot := 6, constantValue := 0 }, { name := "LOG2_ARRAY_LONG_INDEX_SCALE", type := .int, accessFlags := 25, slot := 7, constantValue := 0 }, { name := "LOG2_ARRAY_FLOAT_INDEX_SCALE", type := .int, accessFlags := 25, slot := 8, constantValue := 0 }, { name := "LOG2_ARRAY_DOUBLE_INDEX_SCALE", type := .int, accessFlags := 25, slot := 9, constantValue := 0 }, { name := "LOG2_BYTE_BIT_SIZE", type := .int, accessFlags := 26, slot := 10, constantValue := 0 }, { name := "T_BOOLEAN", type := .int, accessFlags := 25, slot := 11, constantValue := 0 }, { name := "T_CHAR", type := .int, accessFlags := 25, slot := 12, constantValue := 0 }, { name := "T_FLOAT", type := .int, accessFlags := 25, slot := 13, constantValue := 0 }, { name := "T_DOUBLE", type := .int, accessFlags := 25, slot := 14, constantValue := 0 }, { name := "T_BYTE", type := .int, accessFlags := 25, slot := 15, constantValue := 0 }, { name := "T_SHORT", type := .int, accessFlags := 25, slot := 16, constantValue := 0 }, { name := "T_INT", type := .int, accessFlags := 25, slot := 17, constantValue := 0 }, { name := "T_LONG", type := .int, accessFlags := 25, slot := 18, constantValue := 0 }, { name := "JLA", type := (.object "jdk/internal/access/JavaLangAccess"), accessFlags := 26, slot := 19, constantValue := 0 }, { name := "SOFT_MAX_ARRAY_LENGTH", type := .int, accessFlags := 25, slot := 20, constantValue := 0 }]
  methods := #[k12m0]
  instanceTypes := #[]
  staticTypes := #[(.object "jdk/internal/misc/Unsafe"), .boolean, .int, .int, .int, .int, .int, .int, .int, .int, .int, .int, .int, .int, .int, .int, .int, .int, .int, (.object "jdk/internal/access/JavaLangAccess"), .int]
  resolved := Array.replicate 378 none
  statics := none }

def pool13 : Array CpInfo := pool [(1, u "java/lang/Cloneable"), (0, .class_ 1), (0, u "java/lang/Object"), (0, .class_ 3)] 3

/-- java/lang/Cloneable -/
def k13 : Class := { plain "java/lang/Cloneable" (some 0) with
  accessFlags := 1537
  interfaces := #[]
  cf := some (fileOf pool13 2 #[] #[] 1537 4 #[] #[])
  fields := #[]
  methods := #[]
  instanceTypes := #[]
  staticTypes := #[]
  resolved := Array.replicate 8 none
  statics := none }

/-- the primitive byte -/
def k14 : Class := { plain "byte" none with kind := .primitive 'B', accessFlags := 0x411 }
/-- [B -/
def k15 : Class := { plain "[B" (some 0) with kind := .array 14 .byte, interfaces := #[13, 2], accessFlags := 1041 }

/-- the primitive int -/
def k16 : Class := { plain "int" none with kind := .primitive 'I', accessFlags := 0x411 }
/-- [I -/
def k17 : Class := { plain "[I" (some 0) with kind := .array 16 .int, interfaces := #[13, 2], accessFlags := 1041 }

def heap : Heap := #[{ cls := 7, slots := #[.long 0, .int 1, .null, .int 0, .null, .int 0, .int 0], vm := .statics 7 },
  { cls := 11, slots := #[.null, .null, .null], vm := .statics 11 }]
def classes : Array Class := #[k0, k1, k2, k3, k4, k5, k6, k7, k8, k9, k10, k11, k12, k13, k14, k15, k16, k17]
def interned : List (Array UInt16 × Addr) := []
def slotsUsed : Nat := 10
def theMethod : MethodId := ⟨1, 1⟩
def args0 : Array Value := #[.long 5, .int 6, .long 7, .int 3]
def aboutOver (below : List Frame) : State where
  vm := { classes := classes, interned := interned.toArray }
  heap := heap
  slotsUsed := slotsUsed
  threads := #[{ frames := .invoking theMethod args0 :: below }]
def below0 : List Frame := [.native { method := ⟨0, 0⟩, args := #[] }]
def about1 : State := aboutOver below0
def p0 : Program := .bare "" "" ""
def e0 : Env := launch0.env 0 0 0
theorem w_frames : about1.frames = Frame.invoking theMethod args0 :: below0 := rfl
set_option maxRecDepth 65536 in
theorem w_args : argsFit about1.vm theMethod args0 = true := by decide +kernel
set_option maxRecDepth 65536 in
theorem w_heap : heapFits about1 = true := by decide +kernel
set_option maxRecDepth 65536 in
theorem w_runnable : about1.curStatus? = some .runnable := by decide +kernel
set_option maxRecDepth 65536 in
theorem w_alone : about1.alone = true := by decide +kernel
set_option maxRecDepth 65536 in
theorem w_named : about1.methodNamed? x = some theMethod := by decide +kernel
set_option maxRecDepth 65536 in
theorem w_hears : about1.hears theMethod below0 = true := by decide +kernel
set_option maxRecDepth 65536 in
theorem w_ripe : about1.ripe theMethod args0 below0 = true := by decide +kernel
theorem w_running : about1.status = .running := rfl
set_option maxRecDepth 65536 in
theorem w_room : about1.hasRoom e0.platform room_1 = true :=
  launch0.hasRoom_least _ room_1 (by decide +kernel) (by decide +kernel) (by decide +kernel) (by decide +kernel) (by decide +kernel) (by decide +kernel)
theorem allAtoms_all (ts : List Jvm.Cond) (a : Array Jvm.Value) (st : Jvm.State) : (allAtoms ts).before a st = ts.all (fun c => c.before a st) := by
  induction ts with
  | nil => rfl
  | cons c t ih =>
    show (Jvm.Cond.and c (allAtoms t)).before a st = _
    rw [Jvm.Cond.before_and, ih, List.all_cons]
def words1 : List Jvm.Cond := Jvm.Cond.code x code maxLocals ret :: tables_1
/-- a 'code' word, met by the world's own term for the bytes: nothing is compared byte by byte -/
theorem code_word {y : MethodName} {bytes : ByteArray} {mx : Nat} {rt : Option FieldType} {a : Array Value} {s : State} {m : MethodId} {meth : Method} {c : Code} (h1 : s.methodNamed? y = some m) (h2 : s.vm.method? m = some meth) (h3 : meth.code = some c) (h4 : c.code = bytes)
    (h5 : (c.maxLocals == mx && c.exceptionTable.isEmpty && decide (c.maxStack ≤ mostOperands) && decide (meth.sig.returnType = rt) && !meth.locks && decide (parseMethodDescriptor y.desc = some meth.sig)) = true) : (Jvm.Cond.code y bytes mx rt).before a s = true := by
  simp only [Bool.and_eq_true, beq_iff_eq, Bool.not_eq_true', decide_eq_true_eq] at h5
  obtain ⟨⟨⟨⟨⟨g1, g2⟩, g3⟩, g4⟩, g5⟩, g6⟩ := h5
  simp [Cond.before, Cond.holds, Cond.value, h1, h2, h3, h4, g1, g2, g3, g4, g5, g6]
def isCode : Jvm.Cond → Bool
  | .code _ _ _ _ => true
  | _ => false
theorem all_split {L : List Jvm.Cond} {P : Jvm.Cond → Bool} (h1 : L.all (fun c => isCode c || P c) = true) (h2 : ∀ c ∈ L.filter isCode, P c = true) : L.all P = true := by
  refine List.all_eq_true.mpr fun c hc => ?_
  have h := List.all_eq_true.mp h1 c hc
  rcases Bool.eq_false_or_eq_true (isCode c) with hi | hi
  · exact h2 c (List.mem_filter.mpr ⟨hc, hi⟩)
  · simpa [hi] using h
set_option maxRecDepth 65536 in
theorem w_c0 : (Jvm.Cond.code x code maxLocals ret).before args0 about1 = true := code_word (m := ⟨1, 1⟩) (meth := k1m1) (c := k1c1) (by decide +kernel) rfl rfl rfl (by decide +kernel)
set_option maxRecDepth 65536 in
theorem w_c1 : (Jvm.Cond.code ({ cls := "java/lang/String", name := "valueOf", desc := "(C)Ljava/lang/String;" } : Jvm.MethodName) jdk_42_method_139_code (1 : Nat) (Option.some (Jvm.ClassFile.FieldType.object "java/lang/String"))).before args0 about1 = true := code_word (m := ⟨7, 1⟩) (meth := k7m1) (c := k7c1) (by decide +kernel) rfl rfl rfl (by decide +kernel)
set_option maxRecDepth 65536 in
theorem w_c2 : (Jvm.Cond.code ({ cls := "java/lang/StringLatin1", name := "canEncode", desc := "(C)Z" } : Jvm.MethodName) jdk_43_method_3_code (1 : Nat) (Option.some Jvm.ClassFile.FieldType.boolean)).before args0 about1 = true := code_word (m := ⟨8, 1⟩) (meth := k8m1) (c := k8c1) (by decide +kernel) rfl rfl rfl (by decide +kernel)
set_option maxRecDepth 65536 in
theorem w_c3 : (Jvm.Cond.code ({ cls := "java/lang/StringLatin1", name := "toBytes", desc := "(C)[B" } : Jvm.MethodName) jdk_43_method_46_code (1 : Nat) (Option.some (Jvm.ClassFile.FieldType.array Jvm.ClassFile.FieldType.byte))).before args0 about1 = true := code_word (m := ⟨8, 2⟩) (meth := k8m2) (c := k8c2) (by decide +kernel) rfl rfl rfl (by decide +kernel)
set_option maxRecDepth 65536 in
theorem w_c4 : (Jvm.Cond.code ({ cls := "java/lang/String", name := "<init>", desc := "([BB)V" } : Jvm.MethodName) jdk_42_method_151_code (3 : Nat) (Option.none : Option Jvm.ClassFile.FieldType)).before args0 about1 = true := code_word (m := ⟨7, 2⟩) (meth := k7m2) (c := k7c2) (by decide +kernel) rfl rfl rfl (by decide +kernel)
set_option maxRecDepth 65536 in
theorem w_c5 : (Jvm.Cond.code ({ cls := "java/lang/Object", name := "<init>", desc := "()V" } : Jvm.MethodName) object_method_1_code (1 : Nat) (Option.none : Option Jvm.ClassFile.FieldType)).before args0 about1 = true := code_word (m := ⟨0, 0⟩) (meth := k0m0) (c := k0c0) (by decide +kernel) rfl rfl rfl (by decide +kernel)
set_option maxRecDepth 65536 in
theorem w_c6 : (Jvm.Cond.code ({ cls := "com/example/moratuwa/moratuwa/replay/Exchange", name := "<init>", desc := "(JLjava/lang/String;Ljava/lang/String;Ljava/lang/String;Ljava/lang/String;IJ)V" } : Jvm.MethodName) prog_39_method_1_code (10 : Nat) (Option.none : Option Jvm.ClassFile.FieldType)).before args0 about1 = true := code_word (m := ⟨10, 0⟩) (meth := k10m0) (c := k10c0) (by decide +kernel) rfl rfl rfl (by decide +kernel)
set_option maxRecDepth 65536 in
theorem w_c7 : (Jvm.Cond.code ({ cls := "java/lang/Record", name := "<init>", desc := "()V" } : Jvm.MethodName) jdk_30_method_1_code (1 : Nat) (Option.none : Option Jvm.ClassFile.FieldType)).before args0 about1 = true := code_word (m := ⟨9, 0⟩) (meth := k9m0) (c := k9c0) (by decide +kernel) rfl rfl rfl (by decide +kernel)
set_option maxRecDepth 65536 in
theorem w_c8 : (Jvm.Cond.code ({ cls := "com/example/moratuwa/moratuwa/replay/Exchange", name := "answered", desc := "()Z" } : Jvm.MethodName) prog_39_method_2_code (1 : Nat) (Option.some Jvm.ClassFile.FieldType.boolean)).before args0 about1 = true := code_word (m := ⟨10, 1⟩) (meth := k10m1) (c := k10c1) (by decide +kernel) rfl rfl rfl (by decide +kernel)
set_option maxRecDepth 65536 in
theorem w_c9 : (Jvm.Cond.code ({ cls := "com/example/moratuwa/moratuwa/replay/Exchange", name := "status", desc := "()I" } : Jvm.MethodName) prog_39_method_12_code (1 : Nat) (Option.some Jvm.ClassFile.FieldType.int)).before args0 about1 = true := code_word (m := ⟨10, 2⟩) (meth := k10m2) (c := k10c2) (by decide +kernel) rfl rfl rfl (by decide +kernel)
def codes1 : List Jvm.Cond := [Jvm.Cond.code x code maxLocals ret, Jvm.Cond.code ({ cls := "java/lang/String", name := "valueOf", desc := "(C)Ljava/lang/String;" } : Jvm.MethodName) jdk_42_method_139_code (1 : Nat) (Option.some (Jvm.ClassFile.FieldType.object "java/lang/String")), Jvm.Cond.code ({ cls := "java/lang/StringLatin1", name := "canEncode", desc := "(C)Z" } : Jvm.MethodName) jdk_43_method_3_code (1 : Nat) (Option.some Jvm.ClassFile.FieldType.boolean), Jvm.Cond.code ({ cls := "java/lang/StringLatin1", name := "toBytes", desc := "(C)[B" } : Jvm.MethodName) jdk_43_method_46_code (1 : Nat) (Option.some (Jvm.ClassFile.FieldType.array Jvm.ClassFile.FieldType.byte)), Jvm.Cond.code ({ cls := "java/lang/String", name := "<init>", desc := "([BB)V" } : Jvm.MethodName) jdk_42_method_151_code (3 : Nat) (Option.none : Option Jvm.ClassFile.FieldType), Jvm.Cond.code ({ cls := "java/lang/Object", name := "<init>", desc := "()V" } : Jvm.MethodName) object_method_1_code (1 : Nat) (Option.none : Option Jvm.ClassFile.FieldType), Jvm.Cond.code ({ cls := "com/example/moratuwa/moratuwa/replay/Exchange", name := "<init>", desc := "(JLjava/lang/String;Ljava/lang/String;Ljava/lang/String;Ljava/lang/String;IJ)V" } : Jvm.MethodName) prog_39_method_1_code (10 : Nat) (Option.none : Option Jvm.ClassFile.FieldType), Jvm.Cond.code ({ cls := "java/lang/Record", name := "<init>", desc := "()V" } : Jvm.MethodName) jdk_30_method_1_code (1 : Nat) (Option.none : Option Jvm.ClassFile.FieldType), Jvm.Cond.code ({ cls := "com/example/moratuwa/moratuwa/replay/Exchange", name := "answered", desc := "()Z" } : Jvm.MethodName) prog_39_method_2_code (1 : Nat) (Option.some Jvm.ClassFile.FieldType.boolean), Jvm.Cond.code ({ cls := "com/example/moratuwa/moratuwa/replay/Exchange", name := "status", desc := "()I" } : Jvm.MethodName) prog_39_method_12_code (1 : Nat) (Option.some Jvm.ClassFile.FieldType.int)]
set_option maxRecDepth 65536 in
theorem codes_eq : words1.filter isCode = codes1 := rfl
theorem w_codes : ∀ c ∈ words1.filter isCode, c.before args0 about1 = true := by
  rw [codes_eq]
  intro c hc
  simp only [codes1, List.mem_cons, List.not_mem_nil, or_false] at hc
  rcases hc with rfl | rfl | rfl | rfl | rfl | rfl | rfl | rfl | rfl | rfl
  · exact w_c0
  · exact w_c1
  · exact w_c2
  · exact w_c3
  · exact w_c4
  · exact w_c5
  · exact w_c6
  · exact w_c7
  · exact w_c8
  · exact w_c9
set_option maxRecDepth 65536 in
theorem w_t1 : (words1.take 24).all (fun c => isCode c || c.before args0 about1) = true := by decide +kernel
set_option maxRecDepth 65536 in
theorem w_t2 : ((words1.drop 24).take 24).all (fun c => isCode c || c.before args0 about1) = true := by decide +kernel
set_option maxRecDepth 65536 in
theorem w_t3 : ((words1.drop 24).drop 24).all (fun c => isCode c || c.before args0 about1) = true := by decide +kernel
theorem w_tables : (allAtoms (Jvm.Cond.code x code maxLocals ret :: tables_1)).before args0 about1 = true := by
  rw [allAtoms_all]
  show words1.all (fun c => c.before args0 about1) = true
  refine all_split ?_ w_codes
  rw [← List.take_append_drop 24 words1, List.all_append, w_t1, ← List.take_append_drop 24 (words1.drop 24), List.all_append, w_t2, w_t3]
  rfl
set_option maxRecDepth 65536 in
theorem w_rest : rest_1_c.before args0 about1 = true := by decide +kernel
set_option maxRecDepth 65536 in
theorem w_case : (Jvm.Cond.and given_1 narrow_1).before args0 about1 = true := by decide +kernel
theorem w_applies : (headSpec (Jvm.Cond.code x code maxLocals ret :: tables_1) room_1).applies x e0.platform about1 = true :=
  (Spec.applies_iff w_frames).mpr ⟨w_running, w_runnable, w_alone, w_named, w_hears, w_ripe, w_room, w_tables⟩
theorem atStart : AtStart classFile x code maxLocals ret World_1 tables_1 room_1 Calls_1 rest_1 Pre_1 launch0 p0 e0 about1 theMethod args0 below0 :=
  ⟨lists_1, trivial, launch0.admits_env _ _ _, launch0.least_env, fairChoices_fair.cas, fairChoices_fair.clock, w_frames, w_args, w_heap, w_applies, trivial, w_rest, w_case⟩
end start1
theorem witness_1 : WitnessClaimed_1 := ⟨start1.p0, start1.e0, start1.about1, start1.theMethod, start1.args0, start1.below0, start1.atStart⟩
end Jvm.Pilot.@@N@@

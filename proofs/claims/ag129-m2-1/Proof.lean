import JvmDerived
import JvmDerived.Pilot.@@N@@Statement
import JvmDerived.Pilot.@@N@@Code
set_option linter.unusedVariables false
set_option linter.unusedSimpArgs false
namespace Jvm.Pilot.@@N@@
open Jvm Jvm.ClassFile Sem Op Lib Jvm.Free Jvm.Stand Jvm.LawKit Jvm.RoadKit Bundle Jvm.Pilot.@@N@@.Jvm.D
/-! OWN KIT: the walk's steps in one form: 'own_A' where the run stands, 'own_E' that it ends as G says. -/
def own_E (p : Program) (e : Env) (below : List Frame) (G : Outcome → State → Prop) (A : State) : Prop := ∃ s₂ o, Steps p.tables e below A s₂ ∧ s₂.status = .running ∧ Ended s₂ below o ∧ G o s₂
def own_A (l : Launch) (Z : State) (own : String) (cb : ByteArray) (ml n0 : Nat) (p : Program) (e : Env) (R : Room) (s : State) (m : MethodId) (args : Array Value) (below : List Frame) (meth : Method) (c : Code) (T : State) (h : Heap) (locs : List Loc) (cells slots : Nat) : Prop :=
  Stand p l e R s m args below meth c T locs cells slots ∧ p.tables.exec = Jvm.exec ∧ Z.Warmed39 s.vm ∧ c.code = cb ∧ c.maxLocals = ml ∧ s.vm.findClass own = some m.cls ∧ T.heap = h ∧ Fr n0 locs ∧ n0 ≤ h.size ∧ meth.locks = false
def own_G (R : Room) (s : State) (n0 : Nat) (Q : Option Value → Heap → Prop) (o : Outcome) (U : State) : Prop := ∃ v L, o = .returned v ∧ (Q v U.heap ∧ Fr n0 L ∧ n0 ≤ U.heap.size) ∧ FrameEnd s o U L R.cells R.slots
def own_Con (l : Launch) (Z : State) (y : MethodName) (cb : ByteArray) (ml : Nat) (ret : Option FieldType) (rm : Room) (as' : Array Value) (h0 : Heap) (n0 : Nat) (Q : Option Value → Heap → Prop) : Prop :=
  ∀ ws, MetFree l y (head1 (Jvm.Cond.code y cb ml ret :: ws) rm) (fun a U => a = as' ∧ Z.Warmed39 U.vm ∧ U.heap = h0) (fun _ _ _ _ _ => True) (fun _ U o U' => ∃ v L, o = .returned v ∧ (Q v U'.heap ∧ Fr n0 L ∧ n0 ≤ U'.heap.size) ∧ FrameEnd U o U' L rm.cells rm.slots)
theorem own_b255 (x : Int32) : x &&& 255 = x.toInt8.toInt32 &&& 255 := by
  apply Int32.toBitVec_inj.mp
  rw [Int32.toBitVec_and, Int32.toBitVec_and]
  show x.toBitVec &&& (BitVec.ofNat 32 255) = (x.toBitVec.signExtend 8).signExtend 32 &&& (BitVec.ofNat 32 255)
  apply BitVec.eq_of_getLsbD_eq
  intro i hi
  rw [BitVec.getLsbD_and, BitVec.getLsbD_and, BitVec.getLsbD_signExtend, BitVec.getLsbD_signExtend]
  by_cases h : i < 8
  · simp [h, hi]
  · have : ((BitVec.ofNat 32 255)).getLsbD i = false := by
      have h2 : 8 ≤ i := by omega
      have : ((BitVec.ofNat 32 255)).getLsbD i = Nat.testBit 255 i := by simp [BitVec.getLsbD]
      rw [this]; exact Nat.testBit_lt_two_pow (Nat.lt_of_lt_of_le (by decide : 255 < 2^8) (Nat.pow_le_pow_right (by decide) h2))
    simp [this]
theorem own_lremE (x y : Int64) : x - (x / y) * y = x % y := by
  apply Int64.toInt_inj.mp
  have h1 := Int64.le_toInt (x % y)
  have h2 := Int64.toInt_lt (x % y)
  rw [Int64.toInt_sub, Int64.toInt_mul, Int64.toInt_div, Int.bmod_mul_bmod, Int.sub_bmod_bmod, Int.mul_comm (x.toInt.tdiv y.toInt), ← Int.tmod_def, ← Int64.toInt_mod]
  exact Int.bmod_eq_of_le_mul_two (by omega) (by omega)
theorem own_addc (x a b c : Int32) (h : a + b = c) : (x + a) + b = x + c := by rw [Int32.add_assoc, h]
theorem own_nb (t : Int32) : nar .byte (t.toInt8.toInt32) = t.toInt8.toInt32 := by
  show (t.toInt8.toInt32).toInt8.toInt32 = t.toInt8.toInt32
  simp
section OwnKit
variable {l : Launch} {Z : State} {a0 : Array Value} {own : String} {cb : ByteArray} {ml n0 : Nat} {p : Program} {e : Env} {R : Room} {s : State} {m : MethodId} {args : Array Value} {below : List Frame} {meth : Method} {c : Code} {T : State} {h h' : Heap} {locs : List Loc} {cells slots : Nat} {G : Outcome → State → Prop} {pc pc' : Nat} {Ls Ls' : Array Slot} {S : List Value}
theorem own_go {A B : State} (h : ∀ t, Steps p.tables e below B t → Steps p.tables e below A t) (k : own_E p e below G B) : own_E p e below G A := by
  obtain ⟨s₂, o, h1, r⟩ := k; exact ⟨s₂, o, h _ h1, r⟩
theorem own_enter {y : MethodName} {ret : Option FieldType} {as' : Array Value} {h0 : Heap} {Q : Option Value → Heap → Prop} (hpl : plainFor y = true) (hsz : n0 ≤ h0.size) (hef : ∀ m, entryFrame m as' ml = mkF m 0 Ls [])
    (k : ∀ p e s m below meth c T, own_A l Z y.cls cb ml n0 p e R s m as' below meth c T h0 [] 0 0 → meth.sig.returnType = ret → meth.name = y.name → own_E p e below (own_G R s n0 Q) (T.setTop (mkF m 0 Ls []))) : own_Con l Z y cb ml ret R as' h0 n0 Q := by
  intro ws
  refine MetFree.of_bodySF hpl hisR ?_
  intro p e s m args below meth c s₁ Bd hml0 hP hK
  obtain ⟨rfl, hZ, hh⟩ := hP
  have e0 : s₁.heap = h0 := by rw [← hh, Bd.state]; rfl
  have K := k p e s m below meth c s₁ ⟨Stand.of_body Bd, Bd.exec, hZ, Bd.bytes, hml0, findClass_of_methodNamed Bd.named, e0, Fr.nil n0, hsz, Bd.notSynchronized⟩ Bd.returns (name_of_methodNamed Bd.named Bd.method).1
  obtain ⟨s₂, o, h1, h2, h3, h4⟩ := K
  exact ⟨s₂, o, castTop (hef m) h1, h2, h3, h4⟩
theorem own_iret (X : own_A l Z own cb ml n0 p e R s m args below meth c T h locs cells slots) {t : FieldType} {z w : Int32} {Q : Option Value → Heap → Prop} (hr : meth.sig.returnType = some t) (ht : t = .int ∨ t = .boolean ∨ t = .byte ∨ t = .char ∨ t = .short) (hd : decode cb pc = .ok (.ireturn, 1)) (hz : nar t z = w) (hc : cells ≤ R.cells) (hs : slots ≤ R.slots) (hQ : Q (some (.int w)) h) :
    own_E p e below (own_G R s n0 Q) (T.setTop (mkF m pc Ls (.int z :: S))) := by
  obtain ⟨X, hx, hZ, hby, hml, hown, rfl, N, hsz, hlk⟩ := X
  subst hz
  obtain ⟨fs, hl, hrun, hended, hW, hsame⟩ := X.leave (v := some (.int (nar t z))) (fun q => by rw [hr] at q; cases q) hlk
  refine ⟨_, _, ?_, hrun, hended, _, locs, rfl, ⟨hQ, N, hsz⟩, ⟨_, rfl⟩, hW, hsame.mono hc hs⟩
  rcases ht with rfl | ht
  · exact retOut X hx hr rfl (Or.inl ⟨rfl, Or.inl rfl, z, rfl⟩) (hb hby hd) hl
  · exact retN X hx hr ht (hb hby hd) hl
theorem own_lret (X : own_A l Z own cb ml n0 p e R s m args below meth c T h locs cells slots) {z : Int64} {Q : Option Value → Heap → Prop} (hr : meth.sig.returnType = some .long) (hd : decode cb pc = .ok (.lreturn, 1)) (hc : cells ≤ R.cells) (hs : slots ≤ R.slots) (hQ : Q (some (.long z)) h) :
    own_E p e below (own_G R s n0 Q) (T.setTop (mkF m pc Ls (.long z :: S))) := by
  obtain ⟨X, hx, hZ, hby, hml, hown, rfl, N, hsz, hlk⟩ := X
  obtain ⟨fs, hl, hrun, hended, hW, hsame⟩ := X.leave (v := some (.long z)) (fun q => by rw [hr] at q; cases q) hlk
  exact ⟨_, _, retOut X hx hr rfl (Or.inr (Or.inl ⟨rfl, rfl, z, rfl⟩)) (hb hby hd) hl, hrun, hended, _, locs, rfl, ⟨hQ, N, hsz⟩, ⟨_, rfl⟩, hW, hsame.mono hc hs⟩
theorem own_aret (X : own_A l Z own cb ml n0 p e R s m args below meth c T h locs cells slots) {t : FieldType} {v : Value} {Q : Option Value → Heap → Prop} (hr : meth.sig.returnType = some t) (ht : t.isReference = true) (hv : v.isRef = true) (hn : narrow t v = v) (hd : decode cb pc = .ok (.areturn, 1)) (hc : cells ≤ R.cells) (hs : slots ≤ R.slots) (hQ : Q (some v) h) :
    own_E p e below (own_G R s n0 Q) (T.setTop (mkF m pc Ls (v :: S))) := by
  obtain ⟨X, hx, hZ, hby, hml, hown, rfl, N, hsz, hlk⟩ := X
  obtain ⟨fs, hl, hrun, hended, hW, hsame⟩ := X.leave (v := some v) (fun q => by rw [hr] at q; cases q) hlk
  exact ⟨_, _, retOut X hx hr hn (Or.inr (Or.inr (Or.inr (Or.inr ⟨rfl, ht, hv⟩)))) (hb hby hd) hl, hrun, hended, _, locs, rfl, ⟨hQ, N, hsz⟩, ⟨_, rfl⟩, hW, hsame.mono hc hs⟩
theorem own_vret (X : own_A l Z own cb ml n0 p e R s m args below meth c T h locs cells slots) {Q : Option Value → Heap → Prop} (hr : meth.sig.returnType = none) (hd : decode cb pc = .ok (.return_, 1)) (hc : cells ≤ R.cells) (hs : slots ≤ R.slots) (hQ : Q none h) :
    own_E p e below (own_G R s n0 Q) (T.setTop (mkF m pc Ls [])) := by
  obtain ⟨X, hx, hZ, hby, hml, hown, rfl, N, hsz, hlk⟩ := X
  obtain ⟨fs, hl, hrun, hended, hW, hsame⟩ := X.leave (v := none) (fun _ => rfl) hlk
  exact ⟨_, _, X.returnOut hx hr (hb hby hd) hl, hrun, hended, _, locs, rfl, ⟨hQ, N, hsz⟩, ⟨_, rfl⟩, hW, hsame.mono hc hs⟩
theorem own_iloadN (X : own_A l Z own cb ml n0 p e R s m args below meth c T h locs cells slots) {i : Fin 4} {v : Int32} (hd : decode cb pc = .ok (.iload_n i, 1)) (hp : pc + 1 = pc') (hl : Ls[i.val]? = some (.val (.int v))) (k : own_E p e below G (T.setTop (mkF m pc' Ls (.int v :: S)))) : own_E p e below G (T.setTop (mkF m pc Ls S)) := by
  subst hp; exact own_go (fun _ => XS.iloadN X.1.here X.2.1 rfl (hb X.2.2.2.1 hd) hl) k
theorem own_iload (X : own_A l Z own cb ml n0 p e R s m args below meth c T h locs cells slots) {i : Nat} {v : Int32} (hd : decode cb pc = .ok (.iload i, 2)) (hp : pc + 2 = pc') (hl : Ls[i]? = some (.val (.int v))) (k : own_E p e below G (T.setTop (mkF m pc' Ls (.int v :: S)))) : own_E p e below G (T.setTop (mkF m pc Ls S)) := by
  subst hp; exact own_go (fun _ => XS.iload X.1.here X.2.1 rfl (hb X.2.2.2.1 hd) hl) k
theorem own_istoreN (X : own_A l Z own cb ml n0 p e R s m args below meth c T h locs cells slots) {i : Fin 4} {x y : Int32} (hd : decode cb pc = .ok (.istore_n i, 1)) (hp : pc + 1 = pc') (hv : x = y) (hl : storeLocals Ls i.val (.int y) = some Ls') (k : own_E p e below G (T.setTop (mkF m pc' Ls' S))) : own_E p e below G (T.setTop (mkF m pc Ls (.int x :: S))) := by
  subst hp; subst hv; exact own_go (fun _ => XS.istoreN X.1.here X.2.1 rfl (hb X.2.2.2.1 hd) rfl hl) k
theorem own_istore (X : own_A l Z own cb ml n0 p e R s m args below meth c T h locs cells slots) {i : Nat} {x y : Int32} (hd : decode cb pc = .ok (.istore i, 2)) (hp : pc + 2 = pc') (hv : x = y) (hl : storeLocals Ls i (.int y) = some Ls') (k : own_E p e below G (T.setTop (mkF m pc' Ls' S))) : own_E p e below G (T.setTop (mkF m pc Ls (.int x :: S))) := by
  subst hp; subst hv; exact own_go (fun _ => XS.istore X.1.here X.2.1 rfl (hb X.2.2.2.1 hd) rfl hl) k
theorem own_lloadN (X : own_A l Z own cb ml n0 p e R s m args below meth c T h locs cells slots) {i : Fin 4} {v : Int64} (hd : decode cb pc = .ok (.lload_n i, 1)) (hp : pc + 1 = pc') (hl : Ls[i.val]? = some (.val (.long v))) (k : own_E p e below G (T.setTop (mkF m pc' Ls (.long v :: S)))) : own_E p e below G (T.setTop (mkF m pc Ls S)) := by
  subst hp; exact own_go (fun _ => XS.lloadN X.1.here X.2.1 rfl (hb X.2.2.2.1 hd) hl) k
theorem own_lload (X : own_A l Z own cb ml n0 p e R s m args below meth c T h locs cells slots) {i : Nat} {v : Int64} (hd : decode cb pc = .ok (.lload i, 2)) (hp : pc + 2 = pc') (hl : Ls[i]? = some (.val (.long v))) (k : own_E p e below G (T.setTop (mkF m pc' Ls (.long v :: S)))) : own_E p e below G (T.setTop (mkF m pc Ls S)) := by
  subst hp; exact own_go (fun _ => XS.lload X.1.here X.2.1 rfl (hb X.2.2.2.1 hd) hl) k
theorem own_lstoreN (X : own_A l Z own cb ml n0 p e R s m args below meth c T h locs cells slots) {i : Fin 4} {x y : Int64} (hd : decode cb pc = .ok (.lstore_n i, 1)) (hp : pc + 1 = pc') (hv : x = y) (hl : storeLocals Ls i.val (.long y) = some Ls') (k : own_E p e below G (T.setTop (mkF m pc' Ls' S))) : own_E p e below G (T.setTop (mkF m pc Ls (.long x :: S))) := by
  subst hp; subst hv; exact own_go (fun _ => XS.lstoreN X.1.here X.2.1 rfl (hb X.2.2.2.1 hd) rfl hl) k
theorem own_lstore (X : own_A l Z own cb ml n0 p e R s m args below meth c T h locs cells slots) {i : Nat} {x y : Int64} (hd : decode cb pc = .ok (.lstore i, 2)) (hp : pc + 2 = pc') (hv : x = y) (hl : storeLocals Ls i (.long y) = some Ls') (k : own_E p e below G (T.setTop (mkF m pc' Ls' S))) : own_E p e below G (T.setTop (mkF m pc Ls (.long x :: S))) := by
  subst hp; subst hv; exact own_go (fun _ => XS.lstore X.1.here X.2.1 rfl (hb X.2.2.2.1 hd) rfl hl) k
theorem own_aloadN (X : own_A l Z own cb ml n0 p e R s m args below meth c T h locs cells slots) {i : Fin 4} {v : Value} (hd : decode cb pc = .ok (.aload_n i, 1)) (hp : pc + 1 = pc') (hl : Ls[i.val]? = some (.val v)) (hr : v.isRef = true) (k : own_E p e below G (T.setTop (mkF m pc' Ls (v :: S)))) : own_E p e below G (T.setTop (mkF m pc Ls S)) := by
  subst hp; exact own_go (fun _ => XS.aloadN X.1.here X.2.1 rfl (hb X.2.2.2.1 hd) hl hr) k
theorem own_aload (X : own_A l Z own cb ml n0 p e R s m args below meth c T h locs cells slots) {i : Nat} {v : Value} (hd : decode cb pc = .ok (.aload i, 2)) (hp : pc + 2 = pc') (hl : Ls[i]? = some (.val v)) (hr : v.isRef = true) (k : own_E p e below G (T.setTop (mkF m pc' Ls (v :: S)))) : own_E p e below G (T.setTop (mkF m pc Ls S)) := by
  subst hp; exact own_go (fun _ => XS.aload X.1.here X.2.1 rfl (hb X.2.2.2.1 hd) hl hr) k
theorem own_astoreN (X : own_A l Z own cb ml n0 p e R s m args below meth c T h locs cells slots) {i : Fin 4} {v : Value} (hd : decode cb pc = .ok (.astore_n i, 1)) (hp : pc + 1 = pc') (hr : v.isRef = true) (hl : storeLocals Ls i.val v = some Ls') (k : own_E p e below G (T.setTop (mkF m pc' Ls' S))) : own_E p e below G (T.setTop (mkF m pc Ls (v :: S))) := by
  subst hp; exact own_go (fun _ => XS.astoreN X.1.here X.2.1 rfl (hb X.2.2.2.1 hd) rfl hr hl) k
theorem own_astore (X : own_A l Z own cb ml n0 p e R s m args below meth c T h locs cells slots) {i : Nat} {v : Value} (hd : decode cb pc = .ok (.astore i, 2)) (hp : pc + 2 = pc') (hr : v.isRef = true) (hl : storeLocals Ls i v = some Ls') (k : own_E p e below G (T.setTop (mkF m pc' Ls' S))) : own_E p e below G (T.setTop (mkF m pc Ls (v :: S))) := by
  subst hp; exact own_go (fun _ => XS.astore X.1.here X.2.1 rfl (hb X.2.2.2.1 hd) rfl hr hl) k
theorem own_iconst (X : own_A l Z own cb ml n0 p e R s m args below meth c T h locs cells slots) {i : Int} {z : Int32} (hd : decode cb pc = .ok (.iconst i, 1)) (hp : pc + 1 = pc') (hz : Int32.ofInt i = z) (k : own_E p e below G (T.setTop (mkF m pc' Ls (.int z :: S)))) : own_E p e below G (T.setTop (mkF m pc Ls S)) := by
  subst hp; subst hz; exact own_go (fun _ => XS.iconst X.1.here X.2.1 rfl (hb X.2.2.2.1 hd)) k
theorem own_bipush (X : own_A l Z own cb ml n0 p e R s m args below meth c T h locs cells slots) {i : Int} {z : Int32} (hd : decode cb pc = .ok (.bipush i, 2)) (hp : pc + 2 = pc') (hz : (Int8.ofInt i).toInt32 = z) (k : own_E p e below G (T.setTop (mkF m pc' Ls (.int z :: S)))) : own_E p e below G (T.setTop (mkF m pc Ls S)) := by
  subst hp; subst hz; exact own_go (fun _ => XS.bipush X.1.here X.2.1 rfl (hb X.2.2.2.1 hd)) k
theorem own_sipush (X : own_A l Z own cb ml n0 p e R s m args below meth c T h locs cells slots) {i : Int} {z : Int32} (hd : decode cb pc = .ok (.sipush i, 3)) (hp : pc + 3 = pc') (hz : (Int16.ofInt i).toInt32 = z) (k : own_E p e below G (T.setTop (mkF m pc' Ls (.int z :: S)))) : own_E p e below G (T.setTop (mkF m pc Ls S)) := by
  subst hp; subst hz; exact own_go (fun _ => XS.sipush X.1.here X.2.1 rfl (hb X.2.2.2.1 hd)) k
theorem own_lconst (X : own_A l Z own cb ml n0 p e R s m args below meth c T h locs cells slots) {i : Fin 2} {z : Int64} (hd : decode cb pc = .ok (.lconst i, 1)) (hp : pc + 1 = pc') (hz : Int64.ofNat i = z) (k : own_E p e below G (T.setTop (mkF m pc' Ls (.long z :: S)))) : own_E p e below G (T.setTop (mkF m pc Ls S)) := by
  subst hp; subst hz; exact own_go (fun _ => XS.lconst X.1.here X.2.1 rfl (hb X.2.2.2.1 hd)) k
theorem own_anull (X : own_A l Z own cb ml n0 p e R s m args below meth c T h locs cells slots)  (hd : decode cb pc = .ok (.aconst_null, 1)) (hp : pc + 1 = pc') (k : own_E p e below G (T.setTop (mkF m pc' Ls (.null :: S)))) : own_E p e below G (T.setTop (mkF m pc Ls S)) := by
  subst hp; exact own_go (fun _ => XS.aconstNull X.1.here X.2.1 rfl (hb X.2.2.2.1 hd)) k
theorem own_iadd (X : own_A l Z own cb ml n0 p e R s m args below meth c T h locs cells slots) {x y z : Int32} (hd : decode cb pc = .ok (.iadd, 1)) (hp : pc + 1 = pc') (hz : x + y = z) (k : own_E p e below G (T.setTop (mkF m pc' Ls (.int z :: S)))) : own_E p e below G (T.setTop (mkF m pc Ls (.int y :: .int x :: S))) := by
  subst hp; subst hz; exact own_go (fun _ => XS.iadd X.1.here X.2.1 rfl (hb X.2.2.2.1 hd) rfl) k
theorem own_isub (X : own_A l Z own cb ml n0 p e R s m args below meth c T h locs cells slots) {x y z : Int32} (hd : decode cb pc = .ok (.isub, 1)) (hp : pc + 1 = pc') (hz : x - y = z) (k : own_E p e below G (T.setTop (mkF m pc' Ls (.int z :: S)))) : own_E p e below G (T.setTop (mkF m pc Ls (.int y :: .int x :: S))) := by
  subst hp; subst hz; exact own_go (fun _ => XS.isub X.1.here X.2.1 rfl (hb X.2.2.2.1 hd) rfl) k
theorem own_imul (X : own_A l Z own cb ml n0 p e R s m args below meth c T h locs cells slots) {x y z : Int32} (hd : decode cb pc = .ok (.imul, 1)) (hp : pc + 1 = pc') (hz : x * y = z) (k : own_E p e below G (T.setTop (mkF m pc' Ls (.int z :: S)))) : own_E p e below G (T.setTop (mkF m pc Ls (.int y :: .int x :: S))) := by
  subst hp; subst hz; exact own_go (fun _ => XS.imul X.1.here X.2.1 rfl (hb X.2.2.2.1 hd) rfl) k
theorem own_iand (X : own_A l Z own cb ml n0 p e R s m args below meth c T h locs cells slots) {x y z : Int32} (hd : decode cb pc = .ok (.iand, 1)) (hp : pc + 1 = pc') (hz : x &&& y = z) (k : own_E p e below G (T.setTop (mkF m pc' Ls (.int z :: S)))) : own_E p e below G (T.setTop (mkF m pc Ls (.int y :: .int x :: S))) := by
  subst hp; subst hz; exact own_go (fun _ => XS.iand X.1.here X.2.1 rfl (hb X.2.2.2.1 hd) rfl) k
theorem own_ior (X : own_A l Z own cb ml n0 p e R s m args below meth c T h locs cells slots) {x y z : Int32} (hd : decode cb pc = .ok (.ior, 1)) (hp : pc + 1 = pc') (hz : x ||| y = z) (k : own_E p e below G (T.setTop (mkF m pc' Ls (.int z :: S)))) : own_E p e below G (T.setTop (mkF m pc Ls (.int y :: .int x :: S))) := by
  subst hp; subst hz; exact own_go (fun _ => XS.ior X.1.here X.2.1 rfl (hb X.2.2.2.1 hd) rfl) k
theorem own_ixor (X : own_A l Z own cb ml n0 p e R s m args below meth c T h locs cells slots) {x y z : Int32} (hd : decode cb pc = .ok (.ixor, 1)) (hp : pc + 1 = pc') (hz : x ^^^ y = z) (k : own_E p e below G (T.setTop (mkF m pc' Ls (.int z :: S)))) : own_E p e below G (T.setTop (mkF m pc Ls (.int y :: .int x :: S))) := by
  subst hp; subst hz; exact own_go (fun _ => XS.ixor X.1.here X.2.1 rfl (hb X.2.2.2.1 hd) rfl) k
theorem own_ishl (X : own_A l Z own cb ml n0 p e R s m args below meth c T h locs cells slots) {x y z : Int32} (hd : decode cb pc = .ok (.ishl, 1)) (hp : pc + 1 = pc') (hz : x <<< (y &&& 31) = z) (k : own_E p e below G (T.setTop (mkF m pc' Ls (.int z :: S)))) : own_E p e below G (T.setTop (mkF m pc Ls (.int y :: .int x :: S))) := by
  subst hp; subst hz; exact own_go (fun _ => XS.ishl X.1.here X.2.1 rfl (hb X.2.2.2.1 hd) rfl) k
theorem own_ishr (X : own_A l Z own cb ml n0 p e R s m args below meth c T h locs cells slots) {x y z : Int32} (hd : decode cb pc = .ok (.ishr, 1)) (hp : pc + 1 = pc') (hz : x >>> (y &&& 31) = z) (k : own_E p e below G (T.setTop (mkF m pc' Ls (.int z :: S)))) : own_E p e below G (T.setTop (mkF m pc Ls (.int y :: .int x :: S))) := by
  subst hp; subst hz; exact own_go (fun _ => XS.ishr X.1.here X.2.1 rfl (hb X.2.2.2.1 hd) rfl) k
theorem own_iushr (X : own_A l Z own cb ml n0 p e R s m args below meth c T h locs cells slots) {x y z : Int32} (hd : decode cb pc = .ok (.iushr, 1)) (hp : pc + 1 = pc') (hz : (x.toUInt32 >>> (y &&& 31).toUInt32).toInt32 = z) (k : own_E p e below G (T.setTop (mkF m pc' Ls (.int z :: S)))) : own_E p e below G (T.setTop (mkF m pc Ls (.int y :: .int x :: S))) := by
  subst hp; subst hz; exact own_go (fun _ => XS.iushr X.1.here X.2.1 rfl (hb X.2.2.2.1 hd) rfl) k
theorem own_ladd (X : own_A l Z own cb ml n0 p e R s m args below meth c T h locs cells slots) {x y z : Int64} (hd : decode cb pc = .ok (.ladd, 1)) (hp : pc + 1 = pc') (hz : x + y = z) (k : own_E p e below G (T.setTop (mkF m pc' Ls (.long z :: S)))) : own_E p e below G (T.setTop (mkF m pc Ls (.long y :: .long x :: S))) := by
  subst hp; subst hz; exact own_go (fun _ => XS.ladd X.1.here X.2.1 rfl (hb X.2.2.2.1 hd) rfl) k
theorem own_lsub (X : own_A l Z own cb ml n0 p e R s m args below meth c T h locs cells slots) {x y z : Int64} (hd : decode cb pc = .ok (.lsub, 1)) (hp : pc + 1 = pc') (hz : x - y = z) (k : own_E p e below G (T.setTop (mkF m pc' Ls (.long z :: S)))) : own_E p e below G (T.setTop (mkF m pc Ls (.long y :: .long x :: S))) := by
  subst hp; subst hz; exact own_go (fun _ => XS.lsub X.1.here X.2.1 rfl (hb X.2.2.2.1 hd) rfl) k
theorem own_lmul (X : own_A l Z own cb ml n0 p e R s m args below meth c T h locs cells slots) {x y z : Int64} (hd : decode cb pc = .ok (.lmul, 1)) (hp : pc + 1 = pc') (hz : x * y = z) (k : own_E p e below G (T.setTop (mkF m pc' Ls (.long z :: S)))) : own_E p e below G (T.setTop (mkF m pc Ls (.long y :: .long x :: S))) := by
  subst hp; subst hz; exact own_go (fun _ => XS.lmul X.1.here X.2.1 rfl (hb X.2.2.2.1 hd) rfl) k
theorem own_land (X : own_A l Z own cb ml n0 p e R s m args below meth c T h locs cells slots) {x y z : Int64} (hd : decode cb pc = .ok (.land, 1)) (hp : pc + 1 = pc') (hz : x &&& y = z) (k : own_E p e below G (T.setTop (mkF m pc' Ls (.long z :: S)))) : own_E p e below G (T.setTop (mkF m pc Ls (.long y :: .long x :: S))) := by
  subst hp; subst hz; exact own_go (fun _ => XS.land X.1.here X.2.1 rfl (hb X.2.2.2.1 hd) rfl) k
theorem own_lor (X : own_A l Z own cb ml n0 p e R s m args below meth c T h locs cells slots) {x y z : Int64} (hd : decode cb pc = .ok (.lor, 1)) (hp : pc + 1 = pc') (hz : x ||| y = z) (k : own_E p e below G (T.setTop (mkF m pc' Ls (.long z :: S)))) : own_E p e below G (T.setTop (mkF m pc Ls (.long y :: .long x :: S))) := by
  subst hp; subst hz; exact own_go (fun _ => XS.lor X.1.here X.2.1 rfl (hb X.2.2.2.1 hd) rfl) k
theorem own_lxor (X : own_A l Z own cb ml n0 p e R s m args below meth c T h locs cells slots) {x y z : Int64} (hd : decode cb pc = .ok (.lxor, 1)) (hp : pc + 1 = pc') (hz : x ^^^ y = z) (k : own_E p e below G (T.setTop (mkF m pc' Ls (.long z :: S)))) : own_E p e below G (T.setTop (mkF m pc Ls (.long y :: .long x :: S))) := by
  subst hp; subst hz; exact own_go (fun _ => XS.lxor X.1.here X.2.1 rfl (hb X.2.2.2.1 hd) rfl) k
theorem own_lshl (X : own_A l Z own cb ml n0 p e R s m args below meth c T h locs cells slots) {x z : Int64} {y : Int32} (hd : decode cb pc = .ok (.lshl, 1)) (hp : pc + 1 = pc') (hz : x <<< (y &&& 0x3f).toInt64 = z) (k : own_E p e below G (T.setTop (mkF m pc' Ls (.long z :: S)))) : own_E p e below G (T.setTop (mkF m pc Ls (.int y :: .long x :: S))) := by
  subst hp; subst hz; exact own_go (fun _ => XS.lshl X.1.here X.2.1 rfl (hb X.2.2.2.1 hd) rfl) k
theorem own_lshr (X : own_A l Z own cb ml n0 p e R s m args below meth c T h locs cells slots) {x z : Int64} {y : Int32} (hd : decode cb pc = .ok (.lshr, 1)) (hp : pc + 1 = pc') (hz : x >>> (y &&& 0x3f).toInt64 = z) (k : own_E p e below G (T.setTop (mkF m pc' Ls (.long z :: S)))) : own_E p e below G (T.setTop (mkF m pc Ls (.int y :: .long x :: S))) := by
  subst hp; subst hz; exact own_go (fun _ => XS.lshr X.1.here X.2.1 rfl (hb X.2.2.2.1 hd) rfl) k
theorem own_lushr (X : own_A l Z own cb ml n0 p e R s m args below meth c T h locs cells slots) {x z : Int64} {y : Int32} (hd : decode cb pc = .ok (.lushr, 1)) (hp : pc + 1 = pc') (hz : (x.toUInt64 >>> (y &&& 0x3f).toInt64.toUInt64).toInt64 = z) (k : own_E p e below G (T.setTop (mkF m pc' Ls (.long z :: S)))) : own_E p e below G (T.setTop (mkF m pc Ls (.int y :: .long x :: S))) := by
  subst hp; subst hz; exact own_go (fun _ => XS.lushr X.1.here X.2.1 rfl (hb X.2.2.2.1 hd) rfl) k
theorem own_idiv (X : own_A l Z own cb ml n0 p e R s m args below meth c T h locs cells slots) {x y z : Int32} (hd : decode cb pc = .ok (.idiv, 1)) (hp : pc + 1 = pc') (hy : y ≠ 0) (hz : x / y = z) (k : own_E p e below G (T.setTop (mkF m pc' Ls (.int z :: S)))) : own_E p e below G (T.setTop (mkF m pc Ls (.int y :: .int x :: S))) := by
  subst hp; subst hz; exact own_go (fun _ => XS.idiv X.1.here X.2.1 rfl (hb X.2.2.2.1 hd) rfl hy) k
theorem own_irem (X : own_A l Z own cb ml n0 p e R s m args below meth c T h locs cells slots) {x y z : Int32} (hd : decode cb pc = .ok (.irem, 1)) (hp : pc + 1 = pc') (hy : y ≠ 0) (hz : x % y = z) (k : own_E p e below G (T.setTop (mkF m pc' Ls (.int z :: S)))) : own_E p e below G (T.setTop (mkF m pc Ls (.int y :: .int x :: S))) := by
  subst hp; subst hz; exact own_go (fun _ => iremM X.1 X.2.1 rfl (hb X.2.2.2.1 hd) rfl hy) k
theorem own_ldiv (X : own_A l Z own cb ml n0 p e R s m args below meth c T h locs cells slots) {x y z : Int64} (hd : decode cb pc = .ok (.ldiv, 1)) (hp : pc + 1 = pc') (hy : y ≠ 0) (hz : x / y = z) (k : own_E p e below G (T.setTop (mkF m pc' Ls (.long z :: S)))) : own_E p e below G (T.setTop (mkF m pc Ls (.long y :: .long x :: S))) := by
  subst hp; subst hz; exact own_go (fun _ => XS.ldiv X.1.here X.2.1 rfl (hb X.2.2.2.1 hd) rfl hy) k
theorem own_lrem (X : own_A l Z own cb ml n0 p e R s m args below meth c T h locs cells slots) {x y z : Int64} (hd : decode cb pc = .ok (.lrem, 1)) (hp : pc + 1 = pc') (hy : y ≠ 0) (hz : x - (x / y) * y = z) (k : own_E p e below G (T.setTop (mkF m pc' Ls (.long z :: S)))) : own_E p e below G (T.setTop (mkF m pc Ls (.long y :: .long x :: S))) := by
  subst hp; subst hz; exact own_go (fun _ => XS.lrem X.1.here X.2.1 rfl (hb X.2.2.2.1 hd) rfl hy) k
theorem own_ineg (X : own_A l Z own cb ml n0 p e R s m args below meth c T h locs cells slots) {x : Int32} {z : Int32} (hd : decode cb pc = .ok (.ineg, 1)) (hp : pc + 1 = pc') (hz : -x = z) (k : own_E p e below G (T.setTop (mkF m pc' Ls (.int z :: S)))) : own_E p e below G (T.setTop (mkF m pc Ls (.int x :: S))) := by
  subst hp; subst hz; exact own_go (fun _ => XS.ineg X.1.here X.2.1 rfl (hb X.2.2.2.1 hd) rfl) k
theorem own_lneg (X : own_A l Z own cb ml n0 p e R s m args below meth c T h locs cells slots) {x : Int64} {z : Int64} (hd : decode cb pc = .ok (.lneg, 1)) (hp : pc + 1 = pc') (hz : -x = z) (k : own_E p e below G (T.setTop (mkF m pc' Ls (.long z :: S)))) : own_E p e below G (T.setTop (mkF m pc Ls (.long x :: S))) := by
  subst hp; subst hz; exact own_go (fun _ => XS.lneg X.1.here X.2.1 rfl (hb X.2.2.2.1 hd) rfl) k
theorem own_i2l (X : own_A l Z own cb ml n0 p e R s m args below meth c T h locs cells slots) {x : Int32} {z : Int64} (hd : decode cb pc = .ok (.i2l, 1)) (hp : pc + 1 = pc') (hz : x.toInt64 = z) (k : own_E p e below G (T.setTop (mkF m pc' Ls (.long z :: S)))) : own_E p e below G (T.setTop (mkF m pc Ls (.int x :: S))) := by
  subst hp; subst hz; exact own_go (fun _ => XS.i2l X.1.here X.2.1 rfl (hb X.2.2.2.1 hd) rfl) k
theorem own_l2i (X : own_A l Z own cb ml n0 p e R s m args below meth c T h locs cells slots) {x : Int64} {z : Int32} (hd : decode cb pc = .ok (.l2i, 1)) (hp : pc + 1 = pc') (hz : x.toInt32 = z) (k : own_E p e below G (T.setTop (mkF m pc' Ls (.int z :: S)))) : own_E p e below G (T.setTop (mkF m pc Ls (.long x :: S))) := by
  subst hp; subst hz; exact own_go (fun _ => XS.l2i X.1.here X.2.1 rfl (hb X.2.2.2.1 hd) rfl) k
theorem own_i2b (X : own_A l Z own cb ml n0 p e R s m args below meth c T h locs cells slots) {x : Int32} {z : Int32} (hd : decode cb pc = .ok (.i2b, 1)) (hp : pc + 1 = pc') (hz : x.toInt8.toInt32 = z) (k : own_E p e below G (T.setTop (mkF m pc' Ls (.int z :: S)))) : own_E p e below G (T.setTop (mkF m pc Ls (.int x :: S))) := by
  subst hp; subst hz; exact own_go (fun _ => XS.i2b X.1.here X.2.1 rfl (hb X.2.2.2.1 hd) rfl) k
theorem own_i2s (X : own_A l Z own cb ml n0 p e R s m args below meth c T h locs cells slots) {x : Int32} {z : Int32} (hd : decode cb pc = .ok (.i2s, 1)) (hp : pc + 1 = pc') (hz : x.toInt16.toInt32 = z) (k : own_E p e below G (T.setTop (mkF m pc' Ls (.int z :: S)))) : own_E p e below G (T.setTop (mkF m pc Ls (.int x :: S))) := by
  subst hp; subst hz; exact own_go (fun _ => XS.i2s X.1.here X.2.1 rfl (hb X.2.2.2.1 hd) rfl) k
theorem own_i2c (X : own_A l Z own cb ml n0 p e R s m args below meth c T h locs cells slots) {x : Int32} {z : Int32} (hd : decode cb pc = .ok (.i2c, 1)) (hp : pc + 1 = pc') (hz : x.toUInt32.toUInt16.toUInt32.toInt32 = z) (k : own_E p e below G (T.setTop (mkF m pc' Ls (.int z :: S)))) : own_E p e below G (T.setTop (mkF m pc Ls (.int x :: S))) := by
  subst hp; subst hz; exact own_go (fun _ => XS.i2c X.1.here X.2.1 rfl (hb X.2.2.2.1 hd) rfl) k
theorem own_iinc (X : own_A l Z own cb ml n0 p e R s m args below meth c T h locs cells slots) {i : Nat} {cst : Int} {x z : Int32} (hd : decode cb pc = .ok (.iinc i cst, 3)) (hp : pc + 3 = pc') (hl : Ls[i]? = some (.val (.int x))) (hz : x + Int32.ofInt cst = z) (hl' : storeLocals Ls i (.int z) = some Ls') (k : own_E p e below G (T.setTop (mkF m pc' Ls' S))) : own_E p e below G (T.setTop (mkF m pc Ls S)) := by
  subst hp; subst hz; exact own_go (fun _ => XS.iinc X.1.here X.2.1 rfl (hb X.2.2.2.1 hd) hl hl') k
theorem own_dup (X : own_A l Z own cb ml n0 p e R s m args below meth c T h locs cells slots) {v : Value} (hd : decode cb pc = .ok (.dup, 1)) (hp : pc + 1 = pc') (hc : v.category = 1) (k : own_E p e below G (T.setTop (mkF m pc' Ls (v :: v :: S)))) : own_E p e below G (T.setTop (mkF m pc Ls (v :: S))) := by
  subst hp; exact own_go (fun _ => XS.dup X.1.here X.2.1 rfl (hb X.2.2.2.1 hd) rfl hc) k
theorem own_pop (X : own_A l Z own cb ml n0 p e R s m args below meth c T h locs cells slots) {v : Value} (hd : decode cb pc = .ok (.pop, 1)) (hp : pc + 1 = pc') (hc : v.category = 1) (k : own_E p e below G (T.setTop (mkF m pc' Ls S))) : own_E p e below G (T.setTop (mkF m pc Ls (v :: S))) := by
  subst hp; exact own_go (fun _ => XS.pop X.1.here X.2.1 rfl (hb X.2.2.2.1 hd) rfl hc) k
theorem own_goto (X : own_A l Z own cb ml n0 p e R s m args below meth c T h locs cells slots) {o : Int} (hd : decode cb pc = .ok (.goto o, 3)) (ho : 0 ≤ (pc : Int) + o) (hp : ((pc : Int) + o).toNat = pc') (k : own_E p e below G (T.setTop (mkF m pc' Ls S))) : own_E p e below G (T.setTop (mkF m pc Ls S)) :=
  own_go (fun _ => XS.goto X.1.here X.2.1 rfl rfl (hb X.2.2.2.1 hd) ho hp) k
theorem own_icmpY (X : own_A l Z own cb ml n0 p e R s m args below meth c T h locs cells slots) {cd : ClassFile.Cond} {o : Int} {x y : Int32} (hd : decode cb pc = .ok (.if_icmp cd o, 3)) (hc : if_icmp.holds cd x y = true) (ho : 0 ≤ (pc : Int) + o) (hp : ((pc : Int) + o).toNat = pc') (k : own_E p e below G (T.setTop (mkF m pc' Ls S))) : own_E p e below G (T.setTop (mkF m pc Ls (.int y :: .int x :: S))) :=
  own_go (fun _ => XS.icmpYes X.1.here X.2.1 rfl rfl (hb X.2.2.2.1 hd) rfl hc ho hp) k
theorem own_icmpN (X : own_A l Z own cb ml n0 p e R s m args below meth c T h locs cells slots) {cd : ClassFile.Cond} {o : Int} {x y : Int32} (hd : decode cb pc = .ok (.if_icmp cd o, 3)) (hc : if_icmp.holds cd x y = false) (hp : pc + 3 = pc') (k : own_E p e below G (T.setTop (mkF m pc' Ls S))) : own_E p e below G (T.setTop (mkF m pc Ls (.int y :: .int x :: S))) := by
  subst hp; exact own_go (fun _ => XS.icmpNo X.1.here X.2.1 rfl (hb X.2.2.2.1 hd) rfl hc) k
theorem own_ifY (X : own_A l Z own cb ml n0 p e R s m args below meth c T h locs cells slots) {cd : ClassFile.Cond} {o : Int} {x : Int32} (hd : decode cb pc = .ok (.ifCond cd o, 3)) (hc : if_icmp.holds cd x 0 = true) (ho : 0 ≤ (pc : Int) + o) (hp : ((pc : Int) + o).toNat = pc') (k : own_E p e below G (T.setTop (mkF m pc' Ls S))) : own_E p e below G (T.setTop (mkF m pc Ls (.int x :: S))) :=
  own_go (fun _ => XS.ifYes X.1.here X.2.1 rfl rfl (hb X.2.2.2.1 hd) rfl ((if0 _ _).trans hc) ho hp) k
theorem own_ifN (X : own_A l Z own cb ml n0 p e R s m args below meth c T h locs cells slots) {cd : ClassFile.Cond} {o : Int} {x : Int32} (hd : decode cb pc = .ok (.ifCond cd o, 3)) (hc : if_icmp.holds cd x 0 = false) (hp : pc + 3 = pc') (k : own_E p e below G (T.setTop (mkF m pc' Ls S))) : own_E p e below G (T.setTop (mkF m pc Ls (.int x :: S))) := by
  subst hp; exact own_go (fun _ => XS.ifNo X.1.here X.2.1 rfl (hb X.2.2.2.1 hd) rfl ((if0 _ _).trans hc)) k
theorem own_ljY (X : own_A l Z own cb ml n0 p e R s m args below meth c T h locs cells slots) {cd : ClassFile.Cond} {o : Int} {x y : Int64} {pc1 : Nat} (hd1 : decode cb pc = .ok (.lcmp, 1)) (h1 : pc + 1 = pc1) (hd : decode cb pc1 = .ok (.ifCond cd o, 3)) (hc : if_icmp.holds cd (lcmpW x y) 0 = true) (ho : 0 ≤ (pc1 : Int) + o) (hp : ((pc1 : Int) + o).toNat = pc') (k : own_E p e below G (T.setTop (mkF m pc' Ls S))) : own_E p e below G (T.setTop (mkF m pc Ls (.long y :: .long x :: S))) := by
  subst h1
  exact own_go (fun _ k => XS.lcmp X.1.here X.2.1 rfl (hb X.2.2.2.1 hd1) rfl (XS.ifYes X.1.here X.2.1 rfl rfl (hb X.2.2.2.1 hd) rfl ((if0 _ _).trans hc) ho hp k)) k
theorem own_ljN (X : own_A l Z own cb ml n0 p e R s m args below meth c T h locs cells slots) {cd : ClassFile.Cond} {o : Int} {x y : Int64} {pc1 : Nat} (hd1 : decode cb pc = .ok (.lcmp, 1)) (h1 : pc + 1 = pc1) (hd : decode cb pc1 = .ok (.ifCond cd o, 3)) (hc : if_icmp.holds cd (lcmpW x y) 0 = false) (hp : pc1 + 3 = pc') (k : own_E p e below G (T.setTop (mkF m pc' Ls S))) : own_E p e below G (T.setTop (mkF m pc Ls (.long y :: .long x :: S))) := by
  subst h1; subst hp
  exact own_go (fun _ k => XS.lcmp X.1.here X.2.1 rfl (hb X.2.2.2.1 hd1) rfl (XS.ifNo X.1.here X.2.1 rfl (hb X.2.2.2.1 hd) rfl ((if0 _ _).trans hc) k)) k
theorem own_tltL {x y : Int64} (q : x < y) : if_icmp.holds .lt (lcmpW x y) 0 = true ∧ if_icmp.holds .ge (lcmpW x y) 0 = false ∧ if_icmp.holds .gt (lcmpW y x) 0 = true ∧ if_icmp.holds .le (lcmpW y x) 0 = false :=
  ⟨(tlt ((lw_lt x y).mpr q)).1, (tlt ((lw_lt x y).mpr q)).2.1, (tlt ((lw_gt y x).mpr q)).2.2.1, (tlt ((lw_gt y x).mpr q)).2.2.2⟩
theorem own_fltL {x y : Int64} (q : ¬ x < y) : if_icmp.holds .lt (lcmpW x y) 0 = false ∧ if_icmp.holds .ge (lcmpW x y) 0 = true ∧ if_icmp.holds .gt (lcmpW y x) 0 = false ∧ if_icmp.holds .le (lcmpW y x) 0 = true :=
  ⟨(flt (fun z => q ((lw_lt x y).mp z))).1, (flt (fun z => q ((lw_lt x y).mp z))).2.1, (flt (fun z => q ((lw_gt y x).mp z))).2.2.1, (flt (fun z => q ((lw_gt y x).mp z))).2.2.2⟩
theorem own_teqL {x y : Int64} (q : x = y) : if_icmp.holds .eq (lcmpW x y) 0 = true ∧ if_icmp.holds .ne (lcmpW x y) 0 = false := teq ((lw_eq x y).mpr q)
theorem own_feqL {x y : Int64} (q : ¬ x = y) : if_icmp.holds .eq (lcmpW x y) 0 = false ∧ if_icmp.holds .ne (lcmpW x y) 0 = true := feq (fun z => q ((lw_eq x y).mp z))
theorem own_ifnullY (X : own_A l Z own cb ml n0 p e R s m args below meth c T h locs cells slots) {o : Int} (hd : decode cb pc = .ok (.ifnull o, 3)) (ho : 0 ≤ (pc : Int) + o) (hp : ((pc : Int) + o).toNat = pc') (k : own_E p e below G (T.setTop (mkF m pc' Ls S))) : own_E p e below G (T.setTop (mkF m pc Ls (.null :: S))) :=
  own_go (fun _ => XS.ifnullYes X.1.here X.2.1 rfl rfl (hb X.2.2.2.1 hd) rfl ho hp) k
theorem own_ifnullN (X : own_A l Z own cb ml n0 p e R s m args below meth c T h locs cells slots) {o : Int} {b : Addr} (hd : decode cb pc = .ok (.ifnull o, 3)) (hp : pc + 3 = pc') (k : own_E p e below G (T.setTop (mkF m pc' Ls S))) : own_E p e below G (T.setTop (mkF m pc Ls (.ref b :: S))) := by
  subst hp; exact own_go (fun _ => XS.ifnullNo X.1.here X.2.1 rfl (hb X.2.2.2.1 hd) rfl) k
theorem own_ldc (X : own_A l Z own cb ml n0 p e R s m args below meth c T h locs cells slots) {i : Nat} {v : Int32} (w : (Jvm.Cond.constant own i v).before a0 Z = true) (hd : decode cb pc = .ok (.ldc i, 2)) (hp : pc + 2 = pc') (k : own_E p e below G (T.setTop (mkF m pc' Ls (.int v :: S)))) : own_E p e below G (T.setTop (mkF m pc Ls S)) := by
  subst hp; exact own_go (X.1.ldcInt X.2.1 X.2.2.2.2.2.1 (mvT X.2.2.1 w) rfl (hb X.2.2.2.1 hd)) k
theorem own_ldc2 (X : own_A l Z own cb ml n0 p e R s m args below meth c T h locs cells slots) {i : Nat} {v : Int64} (w : (Jvm.Cond.constantLong own i v).before a0 Z = true) (hd : decode cb pc = .ok (.ldc2_w i, 3)) (hp : pc + 3 = pc') (k : own_E p e below G (T.setTop (mkF m pc' Ls (.long v :: S)))) : own_E p e below G (T.setTop (mkF m pc Ls S)) := by
  subst hp; exact own_go (X.1.ldc2Long X.2.1 X.2.2.2.2.2.1 (mvT X.2.2.1 w) rfl (hb X.2.2.2.1 hd)) k
theorem own_callS (X : own_A l Z own cb ml n0 p e R s m args below meth c T h locs cells slots) {y : MethodName} {cb' : ByteArray} {ml' : Nat} {ret' : Option FieldType} {rm : Room} {argsL st : List Value} {Q : Option Value → Heap → Prop} {i : Nat} (hC : own_Con l Z y cb' ml' ret' rm argsL.toArray h n0 Q)
    (w1 : (Jvm.Cond.methodLink own i y).before a0 Z = true) (w2 : (Jvm.Cond.static y).before a0 Z = true) (w3 : (Jvm.Cond.initialized y.cls).before a0 Z = true) (w4 : (Jvm.Cond.code y cb' ml' ret').before a0 Z = true) (hy : y.cls ≠ "java/lang/invoke/MethodHandle" ∧ y.cls ≠ "java/lang/invoke/VarHandle")
    (hf : rm.frames + 1 ≤ R.frames) (W : Nat) (hl : W + (ml' + 11) + rm.locals ≤ R.locals) (hls : Ls.size = ml) {ps : List FieldType} {r : Option FieldType} (hpd : parseMethodDescriptor y.desc = some ⟨ps, r⟩) (hlen : argsL.length = ps.length) (hst : st = argsL.reverse ++ S) (hW : (S.map fun v => v.category).sum ≤ W) (hcl : cells + rm.cells ≤ R.cells) (hsl : slots + rm.slots ≤ R.slots)
    (hd : decode cb pc = .ok (.invokestatic i, 3)) (hp : pc + 3 = pc') (k : ∀ T' h' locs' v, own_A l Z own cb ml n0 p e R s m args below meth c T' h' locs' (cells + rm.cells) (slots + rm.slots) → Q v h' → own_E p e below G (T'.setTop (mkF m pc' Ls (v.toList ++ S)))) : own_E p e below G (T.setTop (mkF m pc Ls st)) := by
  obtain ⟨X, hx, hZ, hby, hml, hown, eT, N, hsz, hlk⟩ := X
  subst hp
  obtain ⟨v, _, ⟨T', L', k', n'⟩, -, X', ⟨Lc, hQ, q1, q2, q3⟩, stp⟩ := Jvm.LawKit.callS X hx (y := y) hown (mvT hZ w1) (mvT hZ w2) (mvT hZ w3) (mvT hZ w4) hy (backOf (Q := fun v h L => Q v h ∧ Fr n0 L ∧ n0 ≤ h.size) (W := W) (hC []) hZ w4 w3 hf hl) (g := mkF m pc Ls st) rfl (by rw [hml]; exact hls) (argsL := argsL) (rest := S) (lenOf hpd hlen) hst (by show 2 * 0 + _ ≤ _; omega) (hb hby hd) (fun _ _ => ⟨rfl, eT, hcl, hsl⟩)
  dsimp only [Pt.U, Pt.locs, Pt.cells, Pt.slots] at X' q1 q2 q3 stp hQ
  subst q1 q2 q3
  exact own_go stp (k _ _ _ _ ⟨X', hx, hZ, hby, hml, hown, rfl, N.app hQ.2.1, hQ.2.2, hlk⟩ hQ.1)
theorem own_callI (X : own_A l Z own cb ml n0 p e R s m args below meth c T h locs cells slots) {y : MethodName} {cb' : ByteArray} {ml' : Nat} {rm : Room} {a : Addr} {argsL st : List Value} {Q : Option Value → Heap → Prop} {i : Nat} (hC : own_Con l Z y cb' ml' none rm (.ref a :: argsL).toArray h n0 Q) (hy1 : y.name = "<init>")
    (w1 : (Jvm.Cond.methodLink own i y).before a0 Z = true) (w2 : (Jvm.Cond.instanceMethod y).before a0 Z = true) (w3 : (Jvm.Cond.initialized y.cls).before a0 Z = true) (w4 : (Jvm.Cond.code y cb' ml' none).before a0 Z = true) (hy : y.cls ≠ "java/lang/invoke/MethodHandle" ∧ y.cls ≠ "java/lang/invoke/VarHandle")
    (hf : rm.frames + 1 ≤ R.frames) (W : Nat) (hl : W + (ml' + 11) + rm.locals ≤ R.locals) (hls : Ls.size = ml) {ps : List FieldType} {r : Option FieldType} (hpd : parseMethodDescriptor y.desc = some ⟨ps, r⟩) (hlen : argsL.length = ps.length) (hst : st = argsL.reverse ++ .ref a :: S) (hW : (S.map fun v => v.category).sum ≤ W) (hcl : cells + rm.cells ≤ R.cells) (hsl : slots + rm.slots ≤ R.slots)
    (hd : decode cb pc = .ok (.invokespecial i, 3)) (hp : pc + 3 = pc') (k : ∀ T' h' locs' v, own_A l Z own cb ml n0 p e R s m args below meth c T' h' locs' (cells + rm.cells) (slots + rm.slots) → Q v h' → own_E p e below G (T'.setTop (mkF m pc' Ls (v.toList ++ S)))) : own_E p e below G (T.setTop (mkF m pc Ls st)) := by
  obtain ⟨X, hx, hZ, hby, hml, hown, eT, N, hsz, hlk⟩ := X
  subst hp
  obtain ⟨v, _, ⟨T', L', k', n'⟩, -, X', ⟨Lc, hQ, q1, q2, q3⟩, stp⟩ := X.specialBack hx (y := y) hy1 hown (mvT hZ w1) (mvT hZ w2) (mvT hZ w4) hy (backOf (Q := fun v h L => Q v h ∧ Fr n0 L ∧ n0 ≤ h.size) (W := W) (hC []) hZ w4 w3 hf hl) (g := mkF m pc Ls st) rfl (by rw [hml]; exact hls) (Steps.refl _) (a := a) (argsL := argsL) (rest := S) (lenOf hpd hlen) hst (by show 2 * 0 + _ ≤ _; omega) (hb hby hd) (fun _ _ => ⟨rfl, eT, hcl, hsl⟩)
  dsimp only [Pt.U, Pt.locs, Pt.cells, Pt.slots] at X' q1 q2 q3 stp hQ
  subst q1 q2 q3
  exact own_go (fun _ z => stp.trans z) (k _ _ _ _ ⟨X', hx, hZ, hby, hml, hown, rfl, N.app hQ.2.1, hQ.2.2, hlk⟩ hQ.1)
theorem own_callV (X : own_A l Z own cb ml n0 p e R s m args below meth c T h locs cells slots) {y : MethodName} {C : String} {cb' : ByteArray} {ml' : Nat} {ret' : Option FieldType} {rm : Room} {a : Addr} {argsL st : List Value} {Q : Option Value → Heap → Prop} {i : Nat} (hC : own_Con l Z y cb' ml' ret' rm (.ref a :: argsL).toArray h n0 Q) (E : Exa Z h a C)
    (w1 : (Jvm.Cond.methodLink own i y).before a0 Z = true) (w2 : (Jvm.Cond.declares y).before a0 Z = true) (w5 : (Jvm.Cond.selects C y y).before a0 Z = true) (w6 : (Jvm.Cond.instanceMethod y).before a0 Z = true) (w3 : (Jvm.Cond.initialized y.cls).before a0 Z = true) (w4 : (Jvm.Cond.code y cb' ml' ret').before a0 Z = true) (hy : y.cls ≠ "java/lang/invoke/MethodHandle" ∧ y.cls ≠ "java/lang/invoke/VarHandle")
    (hf : rm.frames + 1 ≤ R.frames) (W : Nat) (hl : W + (ml' + 11) + rm.locals ≤ R.locals) (hls : Ls.size = ml) {ps : List FieldType} {r : Option FieldType} (hpd : parseMethodDescriptor y.desc = some ⟨ps, r⟩) (hlen : argsL.length = ps.length) (hst : st = argsL.reverse ++ .ref a :: S) (hW : (S.map fun v => v.category).sum ≤ W) (hcl : cells + rm.cells ≤ R.cells) (hsl : slots + rm.slots ≤ R.slots)
    (hd : decode cb pc = .ok (.invokevirtual i, 3)) (hp : pc + 3 = pc') (hC0 : y.cls = C) (k : ∀ T' h' locs' v, own_A l Z own cb ml n0 p e R s m args below meth c T' h' locs' (cells + rm.cells) (slots + rm.slots) → Q v h' → own_E p e below G (T'.setTop (mkF m pc' Ls (v.toList ++ S)))) : own_E p e below G (T.setTop (mkF m pc Ls st)) := by
  obtain ⟨X, hx, hZ, hby, hml, hown, eT, N, hsz, hlk⟩ := X
  subst hp; subst hC0
  obtain ⟨cq, kq, qa, qb, qc⟩ := isOf hZ eT E
  obtain ⟨v, _, ⟨T', L', k', n'⟩, -, X', ⟨Lc, hQ, q1, q2, q3⟩, stp⟩ := X.virtualBack hx (y := y) (z := y) hown (mvT hZ w1) (mvT hZ w2) (notFace_of_selects (args := #[]) (mvT hZ w5)) (mvT hZ w5) (mvT hZ w6) hy (backOf (Q := fun v h L => Q v h ∧ Fr n0 L ∧ n0 ≤ h.size) (W := W) (hC []) hZ w4 w3 hf hl) qa qc (g := mkF m pc Ls st) rfl (by rw [hml]; exact hls) (Steps.refl _) (argsL := argsL) (rest := S) (lenOf hpd hlen) hst (by show 2 * 0 + _ ≤ _; omega) (hb hby hd) (fun _ _ => ⟨rfl, eT, hcl, hsl⟩)
  dsimp only [Pt.U, Pt.locs, Pt.cells, Pt.slots] at X' q1 q2 q3 stp hQ
  subst q1 q2 q3
  exact own_go (fun _ z => stp.trans z) (k _ _ _ _ ⟨X', hx, hZ, hby, hml, hown, rfl, N.app hQ.2.1, hQ.2.2, hlk⟩ hQ.1)
theorem own_initO (X : own_A l Z own cb ml n0 p e R s m args below meth c T h locs cells slots) {i : Nat} {a : Addr} (w1 : (Jvm.Cond.methodLink own i Lib.objectInit).before a0 Z = true) (w2 : (Jvm.Cond.instanceMethod Lib.objectInit).before a0 Z = true) (w3 : (Jvm.Cond.code Lib.objectInit ⟨#[0xb1]⟩ 1 none).before a0 Z = true) (hls : Ls.size = ml) (hf : 1 ≤ R.frames) (W : Nat) (hW : (S.map fun v => v.category).sum ≤ W) (hl : W + 12 ≤ R.locals)
    (hd : decode cb pc = .ok (.invokespecial i, 3)) (hp : pc + 3 = pc') (k : ∀ T', own_A l Z own cb ml n0 p e R s m args below meth c T' h locs cells slots → own_E p e below G (T'.setTop (mkF m pc' Ls S))) : own_E p e below G (T.setTop (mkF m pc Ls (.ref a :: S))) := by
  obtain ⟨X, hx, hZ, hby, hml, hown, eT, N, hsz, hlk⟩ := X
  subst hp
  obtain ⟨T', X', eT', stp⟩ := initO X hx hZ hown w1 w2 w3 eT (g := mkF m pc Ls (.ref a :: S)) rfl (by rw [hml]; exact hls) rfl (hb hby hd) hf (W := W) (by show 2 * 0 + _ ≤ _; omega) hl
  exact own_go stp (k _ ⟨X', hx, hZ, hby, hml, hown, eT', N, hsz, hlk⟩)
theorem own_getF (X : own_A l Z own cb ml n0 p e R s m args below meth c T h locs cells slots) {i : Nat} {a : Addr} {C f d : String} {v : Value} (w1 : (Jvm.Cond.fieldLink own i C f d).before a0 Z = true) (F : Fld Z h a C f d v)
    (hd : decode cb pc = .ok (.getfield i, 3)) (hp : pc + 3 = pc') (k : ∀ T', own_A l Z own cb ml n0 p e R s m args below meth c T' h locs cells slots → own_E p e below G (T'.setTop (mkF m pc' Ls (v :: S)))) : own_E p e below G (T.setTop (mkF m pc Ls (.ref a :: S))) := by
  obtain ⟨X, hx, hZ, hby, hml, hown, eT, N, hsz, hlk⟩ := X
  subst hp
  obtain ⟨T', X', eT', stp⟩ := getF X hx hZ hown (host := "") (Or.inl w1) Via.refl eT F (g := mkF m pc Ls (.ref a :: S)) rfl rfl (hb hby hd)
  exact own_go stp (k _ ⟨X', hx, hZ, hby, hml, hown, eT', N, hsz, hlk⟩)
theorem own_getS (X : own_A l Z own cb ml n0 p e R s m args below meth c T h locs cells slots) {i : Nat} {C f d : String} {v : Value} (w1 : (Jvm.Cond.fieldLink own i C f d).before a0 Z = true) (F : Sta Z h C f d v)
    (hd : decode cb pc = .ok (.getstatic i, 3)) (hp : pc + 3 = pc') (k : ∀ T', own_A l Z own cb ml n0 p e R s m args below meth c T' h locs cells slots → own_E p e below G (T'.setTop (mkF m pc' Ls (v :: S)))) : own_E p e below G (T.setTop (mkF m pc Ls S)) := by
  obtain ⟨X, hx, hZ, hby, hml, hown, eT, N, hsz, hlk⟩ := X
  subst hp
  obtain ⟨T', X', eT', stp⟩ := getS2 X hx hZ hown (host := "") (Or.inl w1) Via.refl eT F (g := mkF m pc Ls S) rfl (hb hby hd)
  exact own_go stp (k _ ⟨X', hx, hZ, hby, hml, hown, eT', N, hsz, hlk⟩)
theorem own_staK {C f d : String} {v : Value} (F : Sta Z h C f d v) (K : Keep h h' []) : Sta Z h' C f d v := by
  obtain ⟨cf, i, k, f', st, cell, h1, h2, h3, h4, h5, r⟩ := F
  exact ⟨cf, i, k, f', st, cell, h1, h2, h3, h4, K.2.1 _ _ h5 (fun q => nomatch q), r⟩
theorem own_putF (X : own_A l Z own cb ml n0 p e R s m args below meth c T h locs cells slots) {i kk : Nat} {a : Addr} {C f d : String} {v old : Value} {ty : FieldType} (w1 : (Jvm.Cond.fieldLink own i C f d).before a0 Z = true) (F : Fld Z h a C f d old) (E : Exa Z h a C) (L : (Jvm.Cond.lays C C f d).before a0 Z = true ∨ ((Jvm.Cond.laysFinal C C f d).before a0 Z = true ∧ own = C ∧ meth.name = "<init>")) (wi : (Jvm.Cond.instantiable C kk).before a0 Z = true)
    (hty : parseFieldDescriptor d = some ty) (hn : narrow ty v = v) (hft : fits ty v = true) (hg : n0 ≤ a) (hd : decode cb pc = .ok (.putfield i, 3)) (hp : pc + 3 = pc')
    (k : ∀ T' h' locs', own_A l Z own cb ml n0 p e R s m args below meth c T' h' locs' cells slots → Wr h h' a (Jvm.RoadKit.slotOf Z C f d) v → Fld Z h' a C f d v → own_E p e below G (T'.setTop (mkF m pc' Ls S))) : own_E p e below G (T.setTop (mkF m pc Ls (v :: .ref a :: S))) := by
  obtain ⟨X, hx, hZ, hby, hml, hown, eT, N, hsz, hlk⟩ := X
  subst hp
  obtain ⟨T', h', X', eT', W, stp⟩ := putF X hx hZ hown (host := "") (Or.inl w1) Via.refl eT F E L wi hty hn hft (g := mkF m pc Ls (v :: .ref a :: S)) rfl rfl (hb hby hd)
  exact own_go stp (k _ _ _ ⟨X', hx, hZ, hby, hml, hown, eT', Fr.snoc X' N hg, by rw [W.size]; exact hsz, hlk⟩ W (F.same W))
theorem own_putFN (X : own_A l Z own cb ml n0 p e R s m args below meth c T h locs cells slots) {i kk : Nat} {a : Addr} {C f d : String} {v v' old : Value} {ty : FieldType} (w1 : (Jvm.Cond.fieldLink own i C f d).before a0 Z = true) (F : Fld Z h a C f d old) (E : Exa Z h a C) (L : (Jvm.Cond.lays C C f d).before a0 Z = true ∨ ((Jvm.Cond.laysFinal C C f d).before a0 Z = true ∧ own = C ∧ meth.name = "<init>")) (wi : (Jvm.Cond.instantiable C kk).before a0 Z = true)
    (hty : parseFieldDescriptor d = some ty) (hn : narrow ty v = v') (hft : fits ty v' = true) (hg : n0 ≤ a) (hd : decode cb pc = .ok (.putfield i, 3)) (hp : pc + 3 = pc')
    (k : ∀ T' h' locs', own_A l Z own cb ml n0 p e R s m args below meth c T' h' locs' cells slots → Wr h h' a (Jvm.RoadKit.slotOf Z C f d) v' → Fld Z h' a C f d v' → own_E p e below G (T'.setTop (mkF m pc' Ls S))) : own_E p e below G (T.setTop (mkF m pc Ls (v :: .ref a :: S))) := by
  obtain ⟨X, hx, hZ, hby, hml, hown, eT, N, hsz, hlk⟩ := X
  subst hp
  obtain ⟨T', h', X', eT', W, stp⟩ := putFN X hx hZ hown w1 Via.refl eT F E L wi hty hn hft (g := mkF m pc Ls (v :: .ref a :: S)) rfl rfl (hb hby hd)
  exact own_go stp (k _ _ _ ⟨X', hx, hZ, hby, hml, hown, eT', Fr.snoc X' N hg, by rw [W.size]; exact hsz, hlk⟩ W (F.same W))
theorem own_new (X : own_A l Z own cb ml n0 p e R s m args below meth c T h locs cells slots) {i n : Nat} {C : String} (w1 : (Jvm.Cond.classLink own i C).before a0 Z = true) (w2 : (Jvm.Cond.instantiable C n).before a0 Z = true) (w3 : (Jvm.Cond.initialized C).before a0 Z = true) (hc : cells + 1 ≤ R.cells) (hs : slots + n ≤ R.slots)
    (hd : decode cb pc = .ok (.new i, 3)) (hp : pc + 3 = pc') (k : ∀ T' h' a, own_A l Z own cb ml n0 p e R s m args below meth c T' h' locs (cells + 1) (slots + n) → Ext h h' → h.size = a → n0 ≤ a → Exa Z h' a C → (∀ {O nm d : String} {ty : FieldType}, Laid Z a0 C O nm d → parseFieldDescriptor d = some ty → Fld Z h' a O nm d (defaultValue ty)) → own_E p e below G (T'.setTop (mkF m pc' Ls (.ref a :: S)))) : own_E p e below G (T.setTop (mkF m pc Ls S)) := by
  obtain ⟨X, hx, hZ, hby, hml, hown, eT, N, hsz, hlk⟩ := X
  subst hp
  obtain ⟨T', h', X', eT', E', A', D', -, stp⟩ := newO X hx hZ hown w1 w2 w3 eT (g := mkF m pc Ls S) rfl (hb hby hd) hc hs
  exact own_go stp (k _ _ _ ⟨X', hx, hZ, hby, hml, hown, eT', N, Nat.le_trans hsz E'.1, hlk⟩ E' rfl hsz A' D')
/-! arrays -/
def own_V (Z : State) (h : Heap) (a : Addr) (ty : FieldType) (z : Int32) (xs : List Int32) : Prop := ∃ k, Arv Z h a k ty z (xs.map Value.int) (.int 0) ∧ xs.length = z.toNatClampNeg
def own_W (Z : State) (h : Heap) (a : Addr) (z : Int32) (xs : List Int64) : Prop := ∃ k, Arv Z h a k .long z (xs.map Value.long) (.long 0) ∧ xs.length = z.toNatClampNeg
theorem own_V.ext {a : Addr} {ty : FieldType} {z : Int32} {xs : List Int32} (V : own_V Z h a ty z xs) (E : Ext h h') : own_V Z h' a ty z xs := by obtain ⟨k, A, q⟩ := V; exact ⟨k, A.ext E, q⟩
theorem own_W.ext {a : Addr} {z : Int32} {xs : List Int64} (V : own_W Z h a z xs) (E : Ext h h') : own_W Z h' a z xs := by obtain ⟨k, A, q⟩ := V; exact ⟨k, A.ext E, q⟩
theorem own_V.other {a b : Addr} {ty : FieldType} {z : Int32} {xs : List Int32} {sl : Nat} {v : Value} (V : own_V Z h a ty z xs) (W : Wr h h' b sl v) (q : a ≠ b) : own_V Z h' a ty z xs := by obtain ⟨k, A, r⟩ := V; exact ⟨k, A.other W q, r⟩
theorem own_W.other {a b : Addr} {z : Int32} {xs : List Int64} {sl : Nat} {v : Value} (V : own_W Z h a z xs) (W : Wr h h' b sl v) (q : a ≠ b) : own_W Z h' a z xs := by obtain ⟨k, A, r⟩ := V; exact ⟨k, A.other W q, r⟩
theorem own_V.keep {a : Addr} {ty : FieldType} {z : Int32} {xs : List Int32} {ws : List Addr} (V : own_V Z h a ty z xs) (K : Keep h h' ws) (q : a ∉ ws) : own_V Z h' a ty z xs := by obtain ⟨k, A, r⟩ := V; exact ⟨k, A.keep K q, r⟩
theorem own_W.keep {a : Addr} {z : Int32} {xs : List Int64} {ws : List Addr} (V : own_W Z h a z xs) (K : Keep h h' ws) (q : a ∉ ws) : own_W Z h' a z xs := by obtain ⟨k, A, r⟩ := V; exact ⟨k, A.keep K q, r⟩
theorem own_V.lt {a : Addr} {ty : FieldType} {z : Int32} {xs : List Int32} (V : own_V Z h a ty z xs) : a < h.size := by obtain ⟨k, A, r⟩ := V; exact A.lt
theorem own_W.lt {a : Addr} {z : Int32} {xs : List Int64} (V : own_W Z h a z xs) : a < h.size := by obtain ⟨k, A, r⟩ := V; exact A.lt
theorem own_V.len {a : Addr} {ty : FieldType} {z : Int32} {xs : List Int32} (V : own_V Z h a ty z xs) : xs.length = z.toNatClampNeg := by obtain ⟨k, A, r⟩ := V; exact r
theorem own_W.len {a : Addr} {z : Int32} {xs : List Int64} (V : own_W Z h a z xs) : xs.length = z.toNatClampNeg := by obtain ⟨k, A, r⟩ := V; exact r
theorem own_V.cast {a : Addr} {ty : FieldType} {z : Int32} {xs ys : List Int32} (V : own_V Z h a ty z xs) (q : xs = ys) : own_V Z h a ty z ys := q ▸ V
theorem own_W.cast {a : Addr} {z : Int32} {xs ys : List Int64} (V : own_W Z h a z xs) (q : xs = ys) : own_W Z h a z ys := q ▸ V
theorem own_cast (X : own_A l Z own cb ml n0 p e R s m args below meth c T h locs cells slots) {i : Nat} {a : Addr} {C : String} (w1 : (Jvm.Cond.classLink own i C).before a0 Z = true) (I : Ins Z h a C true)
    (hd : decode cb pc = .ok (.checkcast i, 3)) (hp : pc + 3 = pc') (k : ∀ T', own_A l Z own cb ml n0 p e R s m args below meth c T' h locs cells slots → own_E p e below G (T'.setTop (mkF m pc' Ls (.ref a :: S)))) : own_E p e below G (T.setTop (mkF m pc Ls (.ref a :: S))) := by
  obtain ⟨X, hx, hZ, hby, hml, hown, eT, N, hsz, hlk⟩ := X
  subst hp
  obtain ⟨T', X', eT', stp⟩ := castY X hx hZ hown w1 eT I (g := mkF m pc Ls (.ref a :: S)) rfl rfl (hb hby hd)
  exact own_go stp (k _ ⟨X', hx, hZ, hby, hml, hown, eT', N, hsz, hlk⟩)
theorem own_V.nn {a : Addr} {ty : FieldType} {z : Int32} {xs : List Int32} (V : own_V Z h a ty z xs) : ¬ z < 0 := by obtain ⟨k, ⟨cl, A, q1, q2, q3, r⟩, r'⟩ := V; exact q3
theorem own_idx {j z : Int32} {n : Nat} (q : n = z.toNatClampNeg) (h0 : ¬ j < 0) (h1 : j < z) : j.toNatClampNeg < n := by
  subst q
  rw [Int32.lt_iff_toInt_lt] at h0 h1
  have e0 : (0 : Int32).toInt = 0 := rfl
  simp only [Int32.toNatClampNeg]; omega
theorem own_mapI (xs : List Int32) (i : Nat) : (xs.map Value.int).getD i (.int 0) = .int (xs.getD i 0) := by
  simp only [List.getD_eq_getElem?_getD, List.getElem?_map]; cases xs[i]? <;> rfl
theorem own_mapL (xs : List Int64) (i : Nat) : (xs.map Value.long).getD i (.long 0) = .long (xs.getD i 0) := by
  simp only [List.getD_eq_getElem?_getD, List.getElem?_map]; cases xs[i]? <;> rfl
theorem own_newV (X : own_A l Z own cb ml n0 p e R s m args below meth c T h locs cells slots) {aty : ArrayType} {ty : FieldType} {n : Int32} (hty : newarray.typeOf aty = ty) (hdv : defaultValue ty = .int 0) (w : (Jvm.Cond.arrayClass ty).before a0 Z = true) (hn : ¬ n < 0) (cap : Nat) (hcap : n.toNatClampNeg ≤ cap) (hb8 : cap * 8 ≤ 536870912) (hc : cells + 1 ≤ R.cells) (hs : slots + cap ≤ R.slots)
    (hd : decode cb pc = .ok (.newarray aty, 2)) (hp : pc + 2 = pc') (k : ∀ T' h' a, own_A l Z own cb ml n0 p e R s m args below meth c T' h' locs (cells + 1) (slots + cap) → Ext h h' → h.size = a → n0 ≤ a → own_V Z h' a ty n (List.replicate n.toNatClampNeg 0) → own_E p e below G (T'.setTop (mkF m pc' Ls (.ref a :: S)))) : own_E p e below G (T.setTop (mkF m pc Ls (.int n :: S))) := by
  obtain ⟨X, hx, hZ, hby, hml, hown, eT, N, hsz, hlk⟩ := X
  subst hp; subst hty
  obtain ⟨T', h', cA, X', eT', E', A', stp⟩ := newP X hx hZ w eT (g := mkF m pc Ls (.int n :: S)) rfl (hb hby hd) rfl hn (cap := cap) hcap hb8 hc hs
  refine own_go stp (k _ _ _ ⟨X', hx, hZ, hby, hml, hown, eT', N, Nat.le_trans hsz E'.1, hlk⟩ E' rfl hsz ⟨cA, ?_, by simp⟩)
  have V := Arv.new A' hn
  rw [hdv] at V
  refine V.pad fun i => ?_
  rw [List.map_replicate]
  exact pad_rep [] (.int 0) n.toNatClampNeg i
theorem own_newW (X : own_A l Z own cb ml n0 p e R s m args below meth c T h locs cells slots) {n : Int32} (w : (Jvm.Cond.arrayClass .long).before a0 Z = true) (hn : ¬ n < 0) (cap : Nat) (hcap : n.toNatClampNeg ≤ cap) (hb8 : cap * 8 ≤ 536870912) (hc : cells + 1 ≤ R.cells) (hs : slots + cap ≤ R.slots)
    (hd : decode cb pc = .ok (.newarray .long, 2)) (hp : pc + 2 = pc') (k : ∀ T' h' a, own_A l Z own cb ml n0 p e R s m args below meth c T' h' locs (cells + 1) (slots + cap) → Ext h h' → h.size = a → n0 ≤ a → own_W Z h' a n (List.replicate n.toNatClampNeg 0) → own_E p e below G (T'.setTop (mkF m pc' Ls (.ref a :: S)))) : own_E p e below G (T.setTop (mkF m pc Ls (.int n :: S))) := by
  obtain ⟨X, hx, hZ, hby, hml, hown, eT, N, hsz, hlk⟩ := X
  subst hp
  obtain ⟨T', h', cA, X', eT', E', A', stp⟩ := newP X hx hZ (aty := .long) w eT (g := mkF m pc Ls (.int n :: S)) rfl (hb hby hd) rfl hn (cap := cap) hcap hb8 hc hs
  refine own_go stp (k _ _ _ ⟨X', hx, hZ, hby, hml, hown, eT', N, Nat.le_trans hsz E'.1, hlk⟩ E' rfl hsz ⟨cA, ?_, by simp⟩)
  have V := Arv.new A' hn
  refine V.pad fun i => ?_
  rw [List.map_replicate]
  exact pad_rep [] (.long 0) n.toNatClampNeg i
theorem own_bastore (X : own_A l Z own cb ml n0 p e R s m args below meth c T h locs cells slots) {a : Addr} {z j x y : Int32} {xs : List Int32} (V : own_V Z h a .byte z xs) (hg : n0 ≤ a) (hy : nar .byte x = y) (i : Nat) (hj : j.toNatClampNeg = i) (h0 : ¬ j < 0) (h1 : j < z)
    (hd : decode cb pc = .ok (.bastore, 1)) (hp : pc + 1 = pc') (k : ∀ T' h' locs', own_A l Z own cb ml n0 p e R s m args below meth c T' h' locs' cells slots → Wr h h' a j.toNatClampNeg (.int y) → own_V Z h' a .byte z (xs.set i y) → own_E p e below G (T'.setTop (mkF m pc' Ls S))) : own_E p e below G (T.setTop (mkF m pc Ls (.int x :: .int j :: .ref a :: S))) := by
  obtain ⟨X, hx, hZ, hby, hml, hown, eT, N, hsz, hlk⟩ := X
  obtain ⟨kc, ⟨cl, A, q1, q2, q3, H, F⟩, hlen⟩ := V
  subst hp; subst hy
  obtain ⟨T', h', X', eT', W, stp⟩ := stB X hx hZ eT A (j := j) (x := x) (inb_of q2 ⟨h0, h1⟩) (g := mkF m pc Ls (.int x :: .int j :: .ref a :: S)) rfl rfl (hb hby hd)
  refine own_go stp (k _ _ _ ⟨X', hx, hZ, hby, hml, hown, eT', Fr.snoc X' N hg, by rw [W.size]; exact hsz, hlk⟩ W ⟨kc, ?_, by rw [List.length_set]; exact hlen⟩)
  rw [List.map_set]
  exact Arv.set A q1 q2 q3 H F (fits_nar_byte _) W i hj (by rw [List.length_map, ← hj]; exact own_idx hlen h0 h1)
theorem own_iastore (X : own_A l Z own cb ml n0 p e R s m args below meth c T h locs cells slots) {a : Addr} {z j w x : Int32} {xs : List Int32} (V : own_V Z h a .int z xs) (hg : n0 ≤ a) (hy : w = x) (i : Nat) (hj : j.toNatClampNeg = i) (h0 : ¬ j < 0) (h1 : j < z)
    (hd : decode cb pc = .ok (.iastore, 1)) (hp : pc + 1 = pc') (k : ∀ T' h' locs', own_A l Z own cb ml n0 p e R s m args below meth c T' h' locs' cells slots → Wr h h' a j.toNatClampNeg (.int x) → own_V Z h' a .int z (xs.set i x) → own_E p e below G (T'.setTop (mkF m pc' Ls S))) : own_E p e below G (T.setTop (mkF m pc Ls (.int w :: .int j :: .ref a :: S))) := by
  obtain ⟨X, hx, hZ, hby, hml, hown, eT, N, hsz, hlk⟩ := X
  obtain ⟨kc, ⟨cl, A, q1, q2, q3, H, F⟩, hlen⟩ := V
  subst hp; subst hy
  obtain ⟨T', h', X', eT', W, stp⟩ := stI X hx hZ eT A (j := j) (x := w) (inb_of q2 ⟨h0, h1⟩) (g := mkF m pc Ls (.int w :: .int j :: .ref a :: S)) rfl rfl (hb hby hd)
  refine own_go stp (k _ _ _ ⟨X', hx, hZ, hby, hml, hown, eT', Fr.snoc X' N hg, by rw [W.size]; exact hsz, hlk⟩ W ⟨kc, ?_, by rw [List.length_set]; exact hlen⟩)
  rw [List.map_set]
  exact Arv.set A q1 q2 q3 H F rfl W i hj (by rw [List.length_map, ← hj]; exact own_idx hlen h0 h1)
theorem own_lastore (X : own_A l Z own cb ml n0 p e R s m args below meth c T h locs cells slots) {a : Addr} {z j : Int32} {w x : Int64} {xs : List Int64} (V : own_W Z h a z xs) (hg : n0 ≤ a) (hy : w = x) (i : Nat) (hj : j.toNatClampNeg = i) (h0 : ¬ j < 0) (h1 : j < z)
    (hd : decode cb pc = .ok (.lastore, 1)) (hp : pc + 1 = pc') (k : ∀ T' h' locs', own_A l Z own cb ml n0 p e R s m args below meth c T' h' locs' cells slots → Wr h h' a j.toNatClampNeg (.long x) → own_W Z h' a z (xs.set i x) → own_E p e below G (T'.setTop (mkF m pc' Ls S))) : own_E p e below G (T.setTop (mkF m pc Ls (.long w :: .int j :: .ref a :: S))) := by
  obtain ⟨X, hx, hZ, hby, hml, hown, eT, N, hsz, hlk⟩ := X
  obtain ⟨kc, ⟨cl, A, q1, q2, q3, H, F⟩, hlen⟩ := V
  subst hp; subst hy
  obtain ⟨T', h', X', eT', W, stp⟩ := stJ X hx hZ eT A (j := j) (x := w) (inb_of q2 ⟨h0, h1⟩) (g := mkF m pc Ls (.long w :: .int j :: .ref a :: S)) rfl rfl (hb hby hd)
  refine own_go stp (k _ _ _ ⟨X', hx, hZ, hby, hml, hown, eT', Fr.snoc X' N hg, by rw [W.size]; exact hsz, hlk⟩ W ⟨kc, ?_, by rw [List.length_set]; exact hlen⟩)
  rw [List.map_set]
  exact Arv.set A q1 q2 q3 H F rfl W i hj (by rw [List.length_map, ← hj]; exact own_idx hlen h0 h1)
theorem own_baload (X : own_A l Z own cb ml n0 p e R s m args below meth c T h locs cells slots) {a : Addr} {z j y : Int32} {xs : List Int32} (V : own_V Z h a .byte z xs) (h0 : ¬ j < 0) (h1 : j < z) (hy : xs.getD j.toNatClampNeg 0 = y) (hd : decode cb pc = .ok (.baload, 1)) (hp : pc + 1 = pc') (k : own_E p e below G (T.setTop (mkF m pc' Ls (.int y :: S)))) : own_E p e below G (T.setTop (mkF m pc Ls (.int j :: .ref a :: S))) := by
  obtain ⟨X, hx, hZ, hby, hml, hown, eT, N, hsz, hlk⟩ := X
  obtain ⟨kc, ⟨cl, A, q1, q2, q3, H, F⟩, hlen⟩ := V
  subst hp
  have hin := inb_of q2 (j := j) ⟨h0, h1⟩
  exact own_go (X.baloadBytes hx (j := j) (v := .int y) (by rw [eT]; exact A.1) (State.isArrayOf_alike hZ.alike A.2.1) A.2.2 hin (H.at hin (by rw [own_mapI, hy])) (g := mkF m pc Ls (.int j :: .ref a :: S)) rfl rfl (hb hby hd)) k
theorem own_iaload (X : own_A l Z own cb ml n0 p e R s m args below meth c T h locs cells slots) {a : Addr} {z j y : Int32} {xs : List Int32} (V : own_V Z h a .int z xs) (h0 : ¬ j < 0) (h1 : j < z) (hy : xs.getD j.toNatClampNeg 0 = y) (hd : decode cb pc = .ok (.iaload, 1)) (hp : pc + 1 = pc') (k : own_E p e below G (T.setTop (mkF m pc' Ls (.int y :: S)))) : own_E p e below G (T.setTop (mkF m pc Ls (.int j :: .ref a :: S))) := by
  obtain ⟨X, hx, hZ, hby, hml, hown, eT, N, hsz, hlk⟩ := X
  obtain ⟨kc, ⟨cl, A, q1, q2, q3, H, F⟩, hlen⟩ := V
  subst hp
  have hin := inb_of q2 (j := j) ⟨h0, h1⟩
  exact own_go (X.iaload hx (j := j) (v := .int y) (by rw [eT]; exact A.1) (State.isArrayOf_alike hZ.alike A.2.1) A.2.2 hin (H.at hin (by rw [own_mapI, hy])) (g := mkF m pc Ls (.int j :: .ref a :: S)) rfl rfl (hb hby hd)) k
theorem own_laload (X : own_A l Z own cb ml n0 p e R s m args below meth c T h locs cells slots) {a : Addr} {z j : Int32} {y : Int64} {xs : List Int64} (V : own_W Z h a z xs) (h0 : ¬ j < 0) (h1 : j < z) (hy : xs.getD j.toNatClampNeg 0 = y) (hd : decode cb pc = .ok (.laload, 1)) (hp : pc + 1 = pc') (k : own_E p e below G (T.setTop (mkF m pc' Ls (.long y :: S)))) : own_E p e below G (T.setTop (mkF m pc Ls (.int j :: .ref a :: S))) := by
  obtain ⟨X, hx, hZ, hby, hml, hown, eT, N, hsz, hlk⟩ := X
  obtain ⟨kc, ⟨cl, A, q1, q2, q3, H, F⟩, hlen⟩ := V
  subst hp
  have hin := inb_of q2 (j := j) ⟨h0, h1⟩
  exact own_go (X.laload hx (j := j) (v := .long y) (by rw [eT]; exact A.1) (State.isArrayOf_alike hZ.alike A.2.1) A.2.2 hin (H.at hin (by rw [own_mapL, hy])) (g := mkF m pc Ls (.int j :: .ref a :: S)) rfl rfl (hb hby hd)) k
theorem own_alen (X : own_A l Z own cb ml n0 p e R s m args below meth c T h locs cells slots) {a : Addr} {z : Int32} {ty : FieldType} {xs : List Int32} (V : own_V Z h a ty z xs) (hd : decode cb pc = .ok (.arraylength, 1)) (hp : pc + 1 = pc') (k : own_E p e below G (T.setTop (mkF m pc' Ls (.int z :: S)))) : own_E p e below G (T.setTop (mkF m pc Ls (.ref a :: S))) := by
  obtain ⟨X, hx, hZ, hby, hml, hown, eT, N, hsz, hlk⟩ := X
  obtain ⟨kc, ⟨cl, A, q1, q2, q3, H, F⟩, hlen⟩ := V
  subst hp
  refine own_go (X.arraylength hx (by rw [eT]; exact A.1) (State.isArrayOf_alike hZ.alike A.2.1) (g := mkF m pc Ls (.ref a :: S)) rfl rfl (hb hby hd)) ?_
  rw [len_of q2 q3]; exact k
end OwnKit
/-! OWN NUMBERS -/
theorem own_adL {a b : Int64} (h1 : -9223372036854775808 ≤ a.toInt + b.toInt) (h2 : a.toInt + b.toInt < 9223372036854775808) : (a + b).toInt = a.toInt + b.toInt := by
  rw [Int64.toInt_add]; exact Int.bmod_eq_of_le_mul_two (by omega) (by omega)
theorem own_sbL {a b : Int64} (h1 : -9223372036854775808 ≤ a.toInt - b.toInt) (h2 : a.toInt - b.toInt < 9223372036854775808) : (a - b).toInt = a.toInt - b.toInt := by
  rw [Int64.toInt_sub]; exact Int.bmod_eq_of_le_mul_two (by omega) (by omega)
theorem own_mlL {a b : Int64} (h1 : -9223372036854775808 ≤ a.toInt * b.toInt) (h2 : a.toInt * b.toInt < 9223372036854775808) : (a * b).toInt = a.toInt * b.toInt := by
  rw [Int64.toInt_mul]; exact Int.bmod_eq_of_le_mul_two (by omega) (by omega)
theorem own_ad {a b : Int32} (h1 : -2147483648 ≤ a.toInt + b.toInt) (h2 : a.toInt + b.toInt < 2147483648) : (a + b).toInt = a.toInt + b.toInt := by
  rw [Int32.toInt_add]; exact Int.bmod_eq_of_le_mul_two (by omega) (by omega)
theorem own_sb {a b : Int32} (h1 : -2147483648 ≤ a.toInt - b.toInt) (h2 : a.toInt - b.toInt < 2147483648) : (a - b).toInt = a.toInt - b.toInt := by
  rw [Int32.toInt_sub]; exact Int.bmod_eq_of_le_mul_two (by omega) (by omega)
theorem own_ml {a b : Int32} (h1 : -2147483648 ≤ a.toInt * b.toInt) (h2 : a.toInt * b.toInt < 2147483648) : (a * b).toInt = a.toInt * b.toInt := by
  rw [Int32.toInt_mul]; exact Int.bmod_eq_of_le_mul_two (by omega) (by omega)
theorem own_dvL {a b : Int64} (h0 : 0 ≤ a.toInt) (h1 : 0 < b.toInt) : (a / b).toInt = a.toInt / b.toInt := by
  rw [Int64.toInt_div, Int.tdiv_eq_ediv_of_nonneg h0]
  have := Int64.toInt_lt a
  have h2 : a.toInt / b.toInt ≤ a.toInt := Int.ediv_le_self _ h0
  have h3 : 0 ≤ a.toInt / b.toInt := Int.ediv_nonneg h0 (by omega)
  exact Int.bmod_eq_of_le_mul_two (by omega) (by omega)
theorem own_dv {a b : Int32} (h0 : 0 ≤ a.toInt) (h1 : 0 < b.toInt) : (a / b).toInt = a.toInt / b.toInt := by
  rw [Int32.toInt_div, Int.tdiv_eq_ediv_of_nonneg h0]
  have := Int32.toInt_lt a
  have h2 : a.toInt / b.toInt ≤ a.toInt := Int.ediv_le_self _ h0
  have h3 : 0 ≤ a.toInt / b.toInt := Int.ediv_nonneg h0 (by omega)
  exact Int.bmod_eq_of_le_mul_two (by omega) (by omega)
theorem own_rmL {a b : Int64} (h0 : 0 ≤ a.toInt) : (a % b).toInt = a.toInt % b.toInt := by
  rw [Int64.toInt_mod, Int.tmod_eq_emod_of_nonneg h0]
theorem own_rm {a b : Int32} (h0 : 0 ≤ a.toInt) : (a % b).toInt = a.toInt % b.toInt := by
  rw [Int32.toInt_mod, Int.tmod_eq_emod_of_nonneg h0]
theorem own_ltL {a b : Int64} : a < b ↔ a.toInt < b.toInt := Int64.lt_iff_toInt_lt
theorem own_lt {a b : Int32} : a < b ↔ a.toInt < b.toInt := Int32.lt_iff_toInt_lt
theorem own_eqL {a b : Int64} : a = b ↔ a.toInt = b.toInt := Int64.toInt_inj.symm
theorem own_eq {a b : Int32} : a = b ↔ a.toInt = b.toInt := Int32.toInt_inj.symm
theorem own_mkL {a b : Int64} {k : Nat} (hk : k < 64) (hb : b.toBitVec.toNat = 2 ^ k - 1) : (a &&& b).toInt = a.toInt % (2 ^ k : Nat) := by
  have e : (a &&& b).toBitVec.toNat = a.toBitVec.toNat % 2 ^ k := by rw [Int64.toBitVec_and, BitVec.toNat_and, hb, Nat.and_two_pow_sub_one_eq_mod]
  have hlt : a.toBitVec.toNat % 2 ^ k < 2 ^ 63 := Nat.lt_of_lt_of_le (Nat.mod_lt _ (Nat.two_pow_pos k)) (Nat.pow_le_pow_right (by decide) (by omega))
  have e2 : (a &&& b).toInt = ((a.toBitVec.toNat % 2 ^ k : Nat) : Int) := by
    show (a &&& b).toBitVec.toInt = _
    rw [BitVec.toInt_eq_toNat_cond, e, if_pos (by omega)]
  rw [e2]
  show _ = a.toBitVec.toInt % _
  rw [BitVec.toInt_eq_toNat_cond]
  have hd : ((2 ^ 64 : Nat) : Int) % ((2 ^ k : Nat) : Int) = 0 := by
    rw [← Int.natCast_emod, Nat.mod_eq_zero_of_dvd (Nat.pow_dvd_pow 2 (by omega))]; rfl
  split
  · rw [Int.natCast_emod]
  · rw [Int.sub_emod, hd, Int.sub_zero, Int.emod_emod_of_dvd _ (Int.dvd_refl _), Int.natCast_emod]
theorem own_mk {a b : Int32} {k : Nat} (hk : k < 32) (hb : b.toBitVec.toNat = 2 ^ k - 1) : (a &&& b).toInt = a.toInt % (2 ^ k : Nat) := by
  have e : (a &&& b).toBitVec.toNat = a.toBitVec.toNat % 2 ^ k := by rw [Int32.toBitVec_and, BitVec.toNat_and, hb, Nat.and_two_pow_sub_one_eq_mod]
  have hlt : a.toBitVec.toNat % 2 ^ k < 2 ^ 31 := Nat.lt_of_lt_of_le (Nat.mod_lt _ (Nat.two_pow_pos k)) (Nat.pow_le_pow_right (by decide) (by omega))
  have e2 : (a &&& b).toInt = ((a.toBitVec.toNat % 2 ^ k : Nat) : Int) := by
    show (a &&& b).toBitVec.toInt = _
    rw [BitVec.toInt_eq_toNat_cond, e, if_pos (by omega)]
  rw [e2]
  show _ = a.toBitVec.toInt % _
  rw [BitVec.toInt_eq_toNat_cond]
  have hd : ((2 ^ 32 : Nat) : Int) % ((2 ^ k : Nat) : Int) = 0 := by
    rw [← Int.natCast_emod, Nat.mod_eq_zero_of_dvd (Nat.pow_dvd_pow 2 (by omega))]; rfl
  split
  · rw [Int.natCast_emod]
  · rw [Int.sub_emod, hd, Int.sub_zero, Int.emod_emod_of_dvd _ (Int.dvd_refl _), Int.natCast_emod]
theorem own_AL {a b : Int64} {x y : Int} (ha : a.toInt = x) (hb : b.toInt = y) (h1 : -9223372036854775808 ≤ x + y) (h2 : x + y < 9223372036854775808) : (a + b).toInt = x + y := by subst ha hb; exact own_adL h1 h2
theorem own_SL {a b : Int64} {x y : Int} (ha : a.toInt = x) (hb : b.toInt = y) (h1 : -9223372036854775808 ≤ x - y) (h2 : x - y < 9223372036854775808) : (a - b).toInt = x - y := by subst ha hb; exact own_sbL h1 h2
theorem own_ML {a b : Int64} {x y : Int} (ha : a.toInt = x) (hb : b.toInt = y) (h1 : -9223372036854775808 ≤ x * y) (h2 : x * y < 9223372036854775808) : (a * b).toInt = x * y := by subst ha hb; exact own_mlL h1 h2
theorem own_DL {a b : Int64} {x y : Int} (ha : a.toInt = x) (hb : b.toInt = y) (h1 : 0 ≤ x) (h2 : 0 < y) : (a / b).toInt = x / y := by subst ha hb; exact own_dvL h1 h2
theorem own_RL {a b : Int64} {x y : Int} (ha : a.toInt = x) (hb : b.toInt = y) (h1 : 0 ≤ x) : (a % b).toInt = x % y := by subst ha hb; exact own_rmL h1
theorem own_AI {a b : Int32} {x y : Int} (ha : a.toInt = x) (hb : b.toInt = y) (h1 : -2147483648 ≤ x + y) (h2 : x + y < 2147483648) : (a + b).toInt = x + y := by subst ha hb; exact own_ad h1 h2
theorem own_SI {a b : Int32} {x y : Int} (ha : a.toInt = x) (hb : b.toInt = y) (h1 : -2147483648 ≤ x - y) (h2 : x - y < 2147483648) : (a - b).toInt = x - y := by subst ha hb; exact own_sb h1 h2
theorem own_MI {a b : Int32} {x y : Int} (ha : a.toInt = x) (hb : b.toInt = y) (h1 : -2147483648 ≤ x * y) (h2 : x * y < 2147483648) : (a * b).toInt = x * y := by subst ha hb; exact own_ml h1 h2
theorem own_DI {a b : Int32} {x y : Int} (ha : a.toInt = x) (hb : b.toInt = y) (h1 : 0 ≤ x) (h2 : 0 < y) : (a / b).toInt = x / y := by subst ha hb; exact own_dv h1 h2
theorem own_RI {a b : Int32} {x y : Int} (ha : a.toInt = x) (hb : b.toInt = y) (h1 : 0 ≤ x) : (a % b).toInt = x % y := by subst ha hb; exact own_rm h1
theorem own_pos {z : Int32} (h : ¬ z < 0) (h1 : ¬ z = 0) : (0 : Int32) < z := by
  have e0 : (0 : Int32).toInt = 0 := rfl
  rw [own_lt] at *; rw [own_eq] at h1; omega
theorem own_last {z : Int32} (h : (0 : Int32) < z) : ¬ z - 1 < 0 ∧ z - 1 < z := by
  have e0 : (0 : Int32).toInt = 0 := rfl
  have e1 : (1 : Int32).toInt = 1 := rfl
  have hl := Int32.toInt_lt z
  rw [own_lt] at h
  have a : (z - 1).toInt = z.toInt - 1 := own_SI rfl e1 (by omega) (by omega)
  rw [own_lt, own_lt]; omega
theorem own_gs {α : Type} (l : List α) (i j : Nat) (v d : α) (hi : i < l.length) : (l.set i v).getD j d = if i = j then v else l.getD j d := by
  simp only [List.getD_eq_getElem?_getD]
  by_cases h : i = j
  · subst h; rw [if_pos rfl, List.getElem?_set_self hi]; rfl
  · rw [if_neg h, List.getElem?_set_ne h]
theorem own_cl {n : Int32} {k : Int} (h : n.toInt = k) : n.toNatClampNeg = k.toNat := by subst h; rfl
theorem own_b8 {t : Int32} (h0 : -128 ≤ t.toInt) (h1 : t.toInt < 128) : t.toInt8.toInt32 = t := by
  rw [own_eq, Int8.toInt_toInt32, Int32.toInt_toInt8]
  exact Int.bmod_eq_of_le_mul_two (by omega) (by omega)
theorem own_i8 {t : Int32} {x : Int} (h : t.toInt = x) : (t.toInt8.toInt32).toInt = (x + 128) % 256 - 128 := by
  subst h
  rw [Int8.toInt_toInt32, Int32.toInt_toInt8, Int.bmod_def]
  split <;> omega
theorem own_shrI {a b : Int32} {x : Int} {k : Nat} (h : a.toInt = x) (hb : (b.toBitVec.smod (BitVec.ofNat 32 32)).toNat = k) : (a >>> b).toInt = x / (2 ^ k : Nat) := by
  subst h; subst hb
  show (a.toBitVec.sshiftRight' (b.toBitVec.smod (BitVec.ofNat 32 32))).toInt = _
  rw [BitVec.toInt_sshiftRight', Int.shiftRight_eq_div_pow]; rfl
theorem own_shlI {a b : Int32} {x : Int} {k : Nat} (h : a.toInt = x) (hb : (b.toBitVec.smod (BitVec.ofNat 32 32)).toNat = k) (h1 : -2147483648 ≤ x * (2 ^ k : Nat)) (h2 : x * (2 ^ k : Nat) < 2147483648) : (a <<< b).toInt = x * (2 ^ k : Nat) := by
  subst h; subst hb
  show (a.toBitVec <<< (b.toBitVec.smod (BitVec.ofNat 32 32))).toInt = a.toBitVec.toInt * _
  rw [BitVec.shiftLeft_eq', BitVec.toInt_shiftLeft, Nat.shiftLeft_eq, BitVec.toInt_eq_toNat_bmod]
  rw [show ((a.toBitVec.toNat * 2 ^ (b.toBitVec.smod (BitVec.ofNat 32 32)).toNat : Nat) : Int) = (a.toBitVec.toNat : Int) * ((2 ^ (b.toBitVec.smod (BitVec.ofNat 32 32)).toNat : Nat) : Int) from by simp]
  rw [← Int.bmod_mul_bmod]
  have e : ((a.toBitVec.toNat : Int).bmod (2 ^ 32)) = a.toInt := (BitVec.toInt_eq_toNat_bmod _).symm
  rw [e]
  exact Int.bmod_eq_of_le_mul_two (by omega) (by omega)
theorem own_orI {a b : Int32} {x y : Int} (k : Nat) (ha : a.toInt = x) (hb : b.toInt = y) (hk : k ≤ 31) (hx : x % (2 ^ k : Nat) = 0) (h0 : 0 ≤ y) (h1 : y < (2 ^ k : Nat)) (h2 : 0 ≤ x) : (a ||| b).toInt = x + y := by
  have la := a.toBitVec.isLt; have lb := b.toBitVec.isLt
  have na : (a.toBitVec.toNat : Int) = x := by
    have : a.toBitVec.toInt = x := ha
    rw [BitVec.toInt_eq_toNat_cond] at this; split at this <;> omega
  have nb : (b.toBitVec.toNat : Int) = y := by
    have : b.toBitVec.toInt = y := hb
    rw [BitVec.toInt_eq_toNat_cond] at this; split at this <;> omega
  have hm : a.toBitVec.toNat % 2 ^ k = 0 := by
    have : ((a.toBitVec.toNat % 2 ^ k : Nat) : Int) = 0 := by rw [Int.natCast_emod, na]; exact hx
    omega
  have hl : b.toBitVec.toNat < 2 ^ k := by omega
  have ho : a.toBitVec.toNat ||| b.toBitVec.toNat = a.toBitVec.toNat + b.toBitVec.toNat := by
    have hd : a.toBitVec.toNat = 2 ^ k * (a.toBitVec.toNat / 2 ^ k) := by
      have := Nat.div_add_mod a.toBitVec.toNat (2 ^ k); omega
    rw [hd, Nat.two_pow_add_eq_or_of_lt hl]
  have q : (a ||| b).toBitVec.toNat = a.toBitVec.toNat + b.toBitVec.toNat := by rw [Int32.toBitVec_or, BitVec.toNat_or, ho]
  have hA : a.toBitVec.toNat < 2 ^ 31 := by
    have : a.toBitVec.toInt = x := ha
    rw [BitVec.toInt_eq_toNat_cond] at this; split at this <;> omega
  have hB : b.toBitVec.toNat < 2 ^ 31 := by
    have : b.toBitVec.toInt = y := hb
    rw [BitVec.toInt_eq_toNat_cond] at this; split at this <;> omega
  have hS : a.toBitVec.toNat + b.toBitVec.toNat < 2 ^ 31 := by rw [← ho]; exact Nat.or_lt_two_pow hA hB
  show (a ||| b).toBitVec.toInt = _
  rw [BitVec.toInt_eq_toNat_cond, q, if_pos (by omega)]
  omega
theorem own_yes {c : Prop} [d : Decidable c] {a b r : Int32} (h : c) (h2 : a = r) : (if c then a else b) = r := (if_pos h).trans h2
theorem own_no {c : Prop} [d : Decidable c] {a b r : Int32} (h : ¬ c) (h2 : b = r) : (if c then a else b) = r := (if_neg h).trans h2
/-! OWN WORDS: 64-bit words as natural numbers -/
def own_U (v : Int64) : Nat := v.toBitVec.toNat
theorem own_U_lt (v : Int64) : own_U v < 18446744073709551616 := v.toBitVec.isLt
theorem own_U_inj {a b : Int64} (h : own_U a = own_U b) : a = b := Int64.toBitVec_inj.mp (BitVec.eq_of_toNat_eq h)
theorem own_U_add (a b : Int64) : own_U (a + b) = (own_U a + own_U b) % 18446744073709551616 := by
  show (a + b).toBitVec.toNat = _
  rw [Int64.toBitVec_add, BitVec.toNat_add]; rfl
theorem own_U_sub (a b : Int64) : own_U (a - b) = (18446744073709551616 - own_U b + own_U a) % 18446744073709551616 := by
  show (a - b).toBitVec.toNat = _
  rw [Int64.toBitVec_sub, BitVec.toNat_sub]; rfl
theorem own_U_lo (v : Int64) : own_U (v &&& (4294967295 : Int64)) = own_U v % 4294967296 := by
  show (v &&& (4294967295 : Int64)).toBitVec.toNat = _
  rw [Int64.toBitVec_and, BitVec.toNat_and]
  exact Nat.and_two_pow_sub_one_eq_mod v.toBitVec.toNat 32
theorem own_U_hi (v : Int64) : own_U ((v.toUInt64 >>> (32 : UInt64)).toInt64) = own_U v / 4294967296 := by
  show (v.toBitVec >>> 32).toNat = _
  rw [BitVec.toNat_ushiftRight, Nat.shiftRight_eq_div_pow]; rfl
theorem own_U_int (v : Int64) : v.toInt = if own_U v < 9223372036854775808 then (own_U v : Int) else (own_U v : Int) - 18446744073709551616 := by
  show v.toBitVec.toInt = _
  rw [BitVec.toInt_eq_toNat_cond]
  show (if 2 * own_U v < 2 ^ 64 then (own_U v : Int) else (own_U v : Int) - (2 ^ 64 : Nat)) = _
  split <;> split <;> omega
theorem own_d1_0 : decode prog_96_method_2_code 0 = .ok (.aload_n 1, 1) := by decide +kernel
theorem own_d1_1 : decode prog_96_method_2_code 1 = .ok (.iconst 0, 1) := by decide +kernel
theorem own_d1_2 : decode prog_96_method_2_code 2 = .ok (.laload, 1) := by decide +kernel
theorem own_d1_3 : decode prog_96_method_2_code 3 = .ok (.aload_n 2, 1) := by decide +kernel
theorem own_d1_4 : decode prog_96_method_2_code 4 = .ok (.iconst 0, 1) := by decide +kernel
theorem own_d1_5 : decode prog_96_method_2_code 5 = .ok (.laload, 1) := by decide +kernel
theorem own_d1_6 : decode prog_96_method_2_code 6 = .ok (.ladd, 1) := by decide +kernel
theorem own_d1_7 : decode prog_96_method_2_code 7 = .ok (.lstore_n 3, 1) := by decide +kernel
theorem own_d1_8 : decode prog_96_method_2_code 8 = .ok (.aload_n 0, 1) := by decide +kernel
theorem own_d1_9 : decode prog_96_method_2_code 9 = .ok (.iconst 0, 1) := by decide +kernel
theorem own_d1_10 : decode prog_96_method_2_code 10 = .ok (.lload_n 3, 1) := by decide +kernel
theorem own_d1_11 : decode prog_96_method_2_code 11 = .ok (.ldc2_w 9, 3) := by decide +kernel
theorem own_d1_14 : decode prog_96_method_2_code 14 = .ok (.land, 1) := by decide +kernel
theorem own_d1_15 : decode prog_96_method_2_code 15 = .ok (.lastore, 1) := by decide +kernel
theorem own_d1_16 : decode prog_96_method_2_code 16 = .ok (.lload_n 3, 1) := by decide +kernel
theorem own_d1_17 : decode prog_96_method_2_code 17 = .ok (.bipush 32, 2) := by decide +kernel
theorem own_d1_19 : decode prog_96_method_2_code 19 = .ok (.lushr, 1) := by decide +kernel
theorem own_d1_20 : decode prog_96_method_2_code 20 = .ok (.aload_n 1, 1) := by decide +kernel
theorem own_d1_21 : decode prog_96_method_2_code 21 = .ok (.iconst 1, 1) := by decide +kernel
theorem own_d1_22 : decode prog_96_method_2_code 22 = .ok (.laload, 1) := by decide +kernel
theorem own_d1_23 : decode prog_96_method_2_code 23 = .ok (.ladd, 1) := by decide +kernel
theorem own_d1_24 : decode prog_96_method_2_code 24 = .ok (.aload_n 2, 1) := by decide +kernel
theorem own_d1_25 : decode prog_96_method_2_code 25 = .ok (.iconst 1, 1) := by decide +kernel
theorem own_d1_26 : decode prog_96_method_2_code 26 = .ok (.laload, 1) := by decide +kernel
theorem own_d1_27 : decode prog_96_method_2_code 27 = .ok (.ladd, 1) := by decide +kernel
theorem own_d1_28 : decode prog_96_method_2_code 28 = .ok (.lstore_n 3, 1) := by decide +kernel
theorem own_d1_29 : decode prog_96_method_2_code 29 = .ok (.aload_n 0, 1) := by decide +kernel
theorem own_d1_30 : decode prog_96_method_2_code 30 = .ok (.iconst 1, 1) := by decide +kernel
theorem own_d1_31 : decode prog_96_method_2_code 31 = .ok (.lload_n 3, 1) := by decide +kernel
theorem own_d1_32 : decode prog_96_method_2_code 32 = .ok (.ldc2_w 9, 3) := by decide +kernel
theorem own_d1_35 : decode prog_96_method_2_code 35 = .ok (.land, 1) := by decide +kernel
theorem own_d1_36 : decode prog_96_method_2_code 36 = .ok (.lastore, 1) := by decide +kernel
theorem own_d1_37 : decode prog_96_method_2_code 37 = .ok (.lload_n 3, 1) := by decide +kernel
theorem own_d1_38 : decode prog_96_method_2_code 38 = .ok (.bipush 32, 2) := by decide +kernel
theorem own_d1_40 : decode prog_96_method_2_code 40 = .ok (.lushr, 1) := by decide +kernel
theorem own_d1_41 : decode prog_96_method_2_code 41 = .ok (.aload_n 1, 1) := by decide +kernel
theorem own_d1_42 : decode prog_96_method_2_code 42 = .ok (.iconst 2, 1) := by decide +kernel
theorem own_d1_43 : decode prog_96_method_2_code 43 = .ok (.laload, 1) := by decide +kernel
theorem own_d1_44 : decode prog_96_method_2_code 44 = .ok (.ladd, 1) := by decide +kernel
theorem own_d1_45 : decode prog_96_method_2_code 45 = .ok (.aload_n 2, 1) := by decide +kernel
theorem own_d1_46 : decode prog_96_method_2_code 46 = .ok (.iconst 2, 1) := by decide +kernel
theorem own_d1_47 : decode prog_96_method_2_code 47 = .ok (.laload, 1) := by decide +kernel
theorem own_d1_48 : decode prog_96_method_2_code 48 = .ok (.ladd, 1) := by decide +kernel
theorem own_d1_49 : decode prog_96_method_2_code 49 = .ok (.lstore_n 3, 1) := by decide +kernel
theorem own_d1_50 : decode prog_96_method_2_code 50 = .ok (.aload_n 0, 1) := by decide +kernel
theorem own_d1_51 : decode prog_96_method_2_code 51 = .ok (.iconst 2, 1) := by decide +kernel
theorem own_d1_52 : decode prog_96_method_2_code 52 = .ok (.lload_n 3, 1) := by decide +kernel
theorem own_d1_53 : decode prog_96_method_2_code 53 = .ok (.ldc2_w 9, 3) := by decide +kernel
theorem own_d1_56 : decode prog_96_method_2_code 56 = .ok (.land, 1) := by decide +kernel
theorem own_d1_57 : decode prog_96_method_2_code 57 = .ok (.lastore, 1) := by decide +kernel
theorem own_d1_58 : decode prog_96_method_2_code 58 = .ok (.lload_n 3, 1) := by decide +kernel
theorem own_d1_59 : decode prog_96_method_2_code 59 = .ok (.bipush 32, 2) := by decide +kernel
theorem own_d1_61 : decode prog_96_method_2_code 61 = .ok (.lushr, 1) := by decide +kernel
theorem own_d1_62 : decode prog_96_method_2_code 62 = .ok (.aload_n 1, 1) := by decide +kernel
theorem own_d1_63 : decode prog_96_method_2_code 63 = .ok (.iconst 3, 1) := by decide +kernel
theorem own_d1_64 : decode prog_96_method_2_code 64 = .ok (.laload, 1) := by decide +kernel
theorem own_d1_65 : decode prog_96_method_2_code 65 = .ok (.ladd, 1) := by decide +kernel
theorem own_d1_66 : decode prog_96_method_2_code 66 = .ok (.aload_n 2, 1) := by decide +kernel
theorem own_d1_67 : decode prog_96_method_2_code 67 = .ok (.iconst 3, 1) := by decide +kernel
theorem own_d1_68 : decode prog_96_method_2_code 68 = .ok (.laload, 1) := by decide +kernel
theorem own_d1_69 : decode prog_96_method_2_code 69 = .ok (.ladd, 1) := by decide +kernel
theorem own_d1_70 : decode prog_96_method_2_code 70 = .ok (.lstore_n 3, 1) := by decide +kernel
theorem own_d1_71 : decode prog_96_method_2_code 71 = .ok (.aload_n 0, 1) := by decide +kernel
theorem own_d1_72 : decode prog_96_method_2_code 72 = .ok (.iconst 3, 1) := by decide +kernel
theorem own_d1_73 : decode prog_96_method_2_code 73 = .ok (.lload_n 3, 1) := by decide +kernel
theorem own_d1_74 : decode prog_96_method_2_code 74 = .ok (.ldc2_w 9, 3) := by decide +kernel
theorem own_d1_77 : decode prog_96_method_2_code 77 = .ok (.land, 1) := by decide +kernel
theorem own_d1_78 : decode prog_96_method_2_code 78 = .ok (.lastore, 1) := by decide +kernel
theorem own_d1_79 : decode prog_96_method_2_code 79 = .ok (.lload_n 3, 1) := by decide +kernel
theorem own_d1_80 : decode prog_96_method_2_code 80 = .ok (.bipush 32, 2) := by decide +kernel
theorem own_d1_82 : decode prog_96_method_2_code 82 = .ok (.lushr, 1) := by decide +kernel
theorem own_d1_83 : decode prog_96_method_2_code 83 = .ok (.aload_n 1, 1) := by decide +kernel
theorem own_d1_84 : decode prog_96_method_2_code 84 = .ok (.iconst 4, 1) := by decide +kernel
theorem own_d1_85 : decode prog_96_method_2_code 85 = .ok (.laload, 1) := by decide +kernel
theorem own_d1_86 : decode prog_96_method_2_code 86 = .ok (.ladd, 1) := by decide +kernel
theorem own_d1_87 : decode prog_96_method_2_code 87 = .ok (.aload_n 2, 1) := by decide +kernel
theorem own_d1_88 : decode prog_96_method_2_code 88 = .ok (.iconst 4, 1) := by decide +kernel
theorem own_d1_89 : decode prog_96_method_2_code 89 = .ok (.laload, 1) := by decide +kernel
theorem own_d1_90 : decode prog_96_method_2_code 90 = .ok (.ladd, 1) := by decide +kernel
theorem own_d1_91 : decode prog_96_method_2_code 91 = .ok (.lstore_n 3, 1) := by decide +kernel
theorem own_d1_92 : decode prog_96_method_2_code 92 = .ok (.aload_n 0, 1) := by decide +kernel
theorem own_d1_93 : decode prog_96_method_2_code 93 = .ok (.iconst 4, 1) := by decide +kernel
theorem own_d1_94 : decode prog_96_method_2_code 94 = .ok (.lload_n 3, 1) := by decide +kernel
theorem own_d1_95 : decode prog_96_method_2_code 95 = .ok (.ldc2_w 9, 3) := by decide +kernel
theorem own_d1_98 : decode prog_96_method_2_code 98 = .ok (.land, 1) := by decide +kernel
theorem own_d1_99 : decode prog_96_method_2_code 99 = .ok (.lastore, 1) := by decide +kernel
theorem own_d1_100 : decode prog_96_method_2_code 100 = .ok (.lload_n 3, 1) := by decide +kernel
theorem own_d1_101 : decode prog_96_method_2_code 101 = .ok (.bipush 32, 2) := by decide +kernel
theorem own_d1_103 : decode prog_96_method_2_code 103 = .ok (.lushr, 1) := by decide +kernel
theorem own_d1_104 : decode prog_96_method_2_code 104 = .ok (.aload_n 1, 1) := by decide +kernel
theorem own_d1_105 : decode prog_96_method_2_code 105 = .ok (.iconst 5, 1) := by decide +kernel
theorem own_d1_106 : decode prog_96_method_2_code 106 = .ok (.laload, 1) := by decide +kernel
theorem own_d1_107 : decode prog_96_method_2_code 107 = .ok (.ladd, 1) := by decide +kernel
theorem own_d1_108 : decode prog_96_method_2_code 108 = .ok (.aload_n 2, 1) := by decide +kernel
theorem own_d1_109 : decode prog_96_method_2_code 109 = .ok (.iconst 5, 1) := by decide +kernel
theorem own_d1_110 : decode prog_96_method_2_code 110 = .ok (.laload, 1) := by decide +kernel
theorem own_d1_111 : decode prog_96_method_2_code 111 = .ok (.ladd, 1) := by decide +kernel
theorem own_d1_112 : decode prog_96_method_2_code 112 = .ok (.lstore_n 3, 1) := by decide +kernel
theorem own_d1_113 : decode prog_96_method_2_code 113 = .ok (.aload_n 0, 1) := by decide +kernel
theorem own_d1_114 : decode prog_96_method_2_code 114 = .ok (.iconst 5, 1) := by decide +kernel
theorem own_d1_115 : decode prog_96_method_2_code 115 = .ok (.lload_n 3, 1) := by decide +kernel
theorem own_d1_116 : decode prog_96_method_2_code 116 = .ok (.ldc2_w 9, 3) := by decide +kernel
theorem own_d1_119 : decode prog_96_method_2_code 119 = .ok (.land, 1) := by decide +kernel
theorem own_d1_120 : decode prog_96_method_2_code 120 = .ok (.lastore, 1) := by decide +kernel
theorem own_d1_121 : decode prog_96_method_2_code 121 = .ok (.lload_n 3, 1) := by decide +kernel
theorem own_d1_122 : decode prog_96_method_2_code 122 = .ok (.bipush 32, 2) := by decide +kernel
theorem own_d1_124 : decode prog_96_method_2_code 124 = .ok (.lushr, 1) := by decide +kernel
theorem own_d1_125 : decode prog_96_method_2_code 125 = .ok (.aload_n 1, 1) := by decide +kernel
theorem own_d1_126 : decode prog_96_method_2_code 126 = .ok (.bipush 6, 2) := by decide +kernel
theorem own_d1_128 : decode prog_96_method_2_code 128 = .ok (.laload, 1) := by decide +kernel
theorem own_d1_129 : decode prog_96_method_2_code 129 = .ok (.ladd, 1) := by decide +kernel
theorem own_d1_130 : decode prog_96_method_2_code 130 = .ok (.aload_n 2, 1) := by decide +kernel
theorem own_d1_131 : decode prog_96_method_2_code 131 = .ok (.bipush 6, 2) := by decide +kernel
theorem own_d1_133 : decode prog_96_method_2_code 133 = .ok (.laload, 1) := by decide +kernel
theorem own_d1_134 : decode prog_96_method_2_code 134 = .ok (.ladd, 1) := by decide +kernel
theorem own_d1_135 : decode prog_96_method_2_code 135 = .ok (.lstore_n 3, 1) := by decide +kernel
theorem own_d1_136 : decode prog_96_method_2_code 136 = .ok (.aload_n 0, 1) := by decide +kernel
theorem own_d1_137 : decode prog_96_method_2_code 137 = .ok (.bipush 6, 2) := by decide +kernel
theorem own_d1_139 : decode prog_96_method_2_code 139 = .ok (.lload_n 3, 1) := by decide +kernel
theorem own_d1_140 : decode prog_96_method_2_code 140 = .ok (.ldc2_w 9, 3) := by decide +kernel
theorem own_d1_143 : decode prog_96_method_2_code 143 = .ok (.land, 1) := by decide +kernel
theorem own_d1_144 : decode prog_96_method_2_code 144 = .ok (.lastore, 1) := by decide +kernel
theorem own_d1_145 : decode prog_96_method_2_code 145 = .ok (.lload_n 3, 1) := by decide +kernel
theorem own_d1_146 : decode prog_96_method_2_code 146 = .ok (.bipush 32, 2) := by decide +kernel
theorem own_d1_148 : decode prog_96_method_2_code 148 = .ok (.lushr, 1) := by decide +kernel
theorem own_d1_149 : decode prog_96_method_2_code 149 = .ok (.aload_n 1, 1) := by decide +kernel
theorem own_d1_150 : decode prog_96_method_2_code 150 = .ok (.bipush 7, 2) := by decide +kernel
theorem own_d1_152 : decode prog_96_method_2_code 152 = .ok (.laload, 1) := by decide +kernel
theorem own_d1_153 : decode prog_96_method_2_code 153 = .ok (.ladd, 1) := by decide +kernel
theorem own_d1_154 : decode prog_96_method_2_code 154 = .ok (.aload_n 2, 1) := by decide +kernel
theorem own_d1_155 : decode prog_96_method_2_code 155 = .ok (.bipush 7, 2) := by decide +kernel
theorem own_d1_157 : decode prog_96_method_2_code 157 = .ok (.laload, 1) := by decide +kernel
theorem own_d1_158 : decode prog_96_method_2_code 158 = .ok (.ladd, 1) := by decide +kernel
theorem own_d1_159 : decode prog_96_method_2_code 159 = .ok (.lstore_n 3, 1) := by decide +kernel
theorem own_d1_160 : decode prog_96_method_2_code 160 = .ok (.aload_n 0, 1) := by decide +kernel
theorem own_d1_161 : decode prog_96_method_2_code 161 = .ok (.bipush 7, 2) := by decide +kernel
theorem own_d1_163 : decode prog_96_method_2_code 163 = .ok (.lload_n 3, 1) := by decide +kernel
theorem own_d1_164 : decode prog_96_method_2_code 164 = .ok (.ldc2_w 9, 3) := by decide +kernel
theorem own_d1_167 : decode prog_96_method_2_code 167 = .ok (.land, 1) := by decide +kernel
theorem own_d1_168 : decode prog_96_method_2_code 168 = .ok (.lastore, 1) := by decide +kernel
theorem own_d1_169 : decode prog_96_method_2_code 169 = .ok (.lload_n 3, 1) := by decide +kernel
theorem own_d1_170 : decode prog_96_method_2_code 170 = .ok (.bipush 32, 2) := by decide +kernel
theorem own_d1_172 : decode prog_96_method_2_code 172 = .ok (.lushr, 1) := by decide +kernel
theorem own_d1_173 : decode prog_96_method_2_code 173 = .ok (.lreturn, 1) := by decide +kernel
theorem own_ef1 (a1 : Addr) (a2 : Addr) (a3 : Addr) (m : MethodId) : entryFrame m #[(.ref a1), (.ref a2), (.ref a3)] 5 = mkF m 0 #[.val (.ref a1), .val (.ref a2), .val (.ref a3), .unset, .unset] [] := by first | (simp [entryFrame, mkF, argsToLocals, Value.category]; done) | rfl
theorem own_pf1 : plainFor (⟨"marketmint/Words256", "add", "([J[J[J)J"⟩ : MethodName) = true := by first | exact plainFor_of_name (by first | (simp [plainName, overriddenIn]; done) | decide +kernel) | decide +kernel
def own_v1_15 (x0 : Int64) (y0 : Int64) : Int64 := ((x0 + y0) &&& (4294967295 : Int64))
def own_v1_28 (x0 : Int64) (x1 : Int64) (y0 : Int64) (y1 : Int64) : Int64 := (((((x0 + y0).toUInt64 >>> (32 : UInt64)).toInt64) + x1) + y1)
def own_v1_36 (x0 : Int64) (x1 : Int64) (y0 : Int64) (y1 : Int64) : Int64 := ((own_v1_28 x0 x1 y0 y1) &&& (4294967295 : Int64))
def own_v1_49 (x0 : Int64) (x1 : Int64) (x2 : Int64) (y0 : Int64) (y1 : Int64) (y2 : Int64) : Int64 := (((((own_v1_28 x0 x1 y0 y1).toUInt64 >>> (32 : UInt64)).toInt64) + x2) + y2)
def own_v1_57 (x0 : Int64) (x1 : Int64) (x2 : Int64) (y0 : Int64) (y1 : Int64) (y2 : Int64) : Int64 := ((own_v1_49 x0 x1 x2 y0 y1 y2) &&& (4294967295 : Int64))
def own_v1_70 (x0 : Int64) (x1 : Int64) (x2 : Int64) (x3 : Int64) (y0 : Int64) (y1 : Int64) (y2 : Int64) (y3 : Int64) : Int64 := (((((own_v1_49 x0 x1 x2 y0 y1 y2).toUInt64 >>> (32 : UInt64)).toInt64) + x3) + y3)
def own_v1_78 (x0 : Int64) (x1 : Int64) (x2 : Int64) (x3 : Int64) (y0 : Int64) (y1 : Int64) (y2 : Int64) (y3 : Int64) : Int64 := ((own_v1_70 x0 x1 x2 x3 y0 y1 y2 y3) &&& (4294967295 : Int64))
def own_v1_91 (x0 : Int64) (x1 : Int64) (x2 : Int64) (x3 : Int64) (x4 : Int64) (y0 : Int64) (y1 : Int64) (y2 : Int64) (y3 : Int64) (y4 : Int64) : Int64 := (((((own_v1_70 x0 x1 x2 x3 y0 y1 y2 y3).toUInt64 >>> (32 : UInt64)).toInt64) + x4) + y4)
def own_v1_99 (x0 : Int64) (x1 : Int64) (x2 : Int64) (x3 : Int64) (x4 : Int64) (y0 : Int64) (y1 : Int64) (y2 : Int64) (y3 : Int64) (y4 : Int64) : Int64 := ((own_v1_91 x0 x1 x2 x3 x4 y0 y1 y2 y3 y4) &&& (4294967295 : Int64))
def own_v1_112 (x0 : Int64) (x1 : Int64) (x2 : Int64) (x3 : Int64) (x4 : Int64) (x5 : Int64) (y0 : Int64) (y1 : Int64) (y2 : Int64) (y3 : Int64) (y4 : Int64) (y5 : Int64) : Int64 := (((((own_v1_91 x0 x1 x2 x3 x4 y0 y1 y2 y3 y4).toUInt64 >>> (32 : UInt64)).toInt64) + x5) + y5)
def own_v1_120 (x0 : Int64) (x1 : Int64) (x2 : Int64) (x3 : Int64) (x4 : Int64) (x5 : Int64) (y0 : Int64) (y1 : Int64) (y2 : Int64) (y3 : Int64) (y4 : Int64) (y5 : Int64) : Int64 := ((own_v1_112 x0 x1 x2 x3 x4 x5 y0 y1 y2 y3 y4 y5) &&& (4294967295 : Int64))
def own_v1_135 (x0 : Int64) (x1 : Int64) (x2 : Int64) (x3 : Int64) (x4 : Int64) (x5 : Int64) (x6 : Int64) (y0 : Int64) (y1 : Int64) (y2 : Int64) (y3 : Int64) (y4 : Int64) (y5 : Int64) (y6 : Int64) : Int64 := (((((own_v1_112 x0 x1 x2 x3 x4 x5 y0 y1 y2 y3 y4 y5).toUInt64 >>> (32 : UInt64)).toInt64) + x6) + y6)
def own_v1_144 (x0 : Int64) (x1 : Int64) (x2 : Int64) (x3 : Int64) (x4 : Int64) (x5 : Int64) (x6 : Int64) (y0 : Int64) (y1 : Int64) (y2 : Int64) (y3 : Int64) (y4 : Int64) (y5 : Int64) (y6 : Int64) : Int64 := ((own_v1_135 x0 x1 x2 x3 x4 x5 x6 y0 y1 y2 y3 y4 y5 y6) &&& (4294967295 : Int64))
def own_v1_159 (x0 : Int64) (x1 : Int64) (x2 : Int64) (x3 : Int64) (x4 : Int64) (x5 : Int64) (x6 : Int64) (x7 : Int64) (y0 : Int64) (y1 : Int64) (y2 : Int64) (y3 : Int64) (y4 : Int64) (y5 : Int64) (y6 : Int64) (y7 : Int64) : Int64 := (((((own_v1_135 x0 x1 x2 x3 x4 x5 x6 y0 y1 y2 y3 y4 y5 y6).toUInt64 >>> (32 : UInt64)).toInt64) + x7) + y7)
def own_v1_168 (x0 : Int64) (x1 : Int64) (x2 : Int64) (x3 : Int64) (x4 : Int64) (x5 : Int64) (x6 : Int64) (x7 : Int64) (y0 : Int64) (y1 : Int64) (y2 : Int64) (y3 : Int64) (y4 : Int64) (y5 : Int64) (y6 : Int64) (y7 : Int64) : Int64 := ((own_v1_159 x0 x1 x2 x3 x4 x5 x6 x7 y0 y1 y2 y3 y4 y5 y6 y7) &&& (4294967295 : Int64))
def own_F1 (r0 : Int64) (r1 : Int64) (r2 : Int64) (r3 : Int64) (r4 : Int64) (r5 : Int64) (r6 : Int64) (r7 : Int64) (x0 : Int64) (x1 : Int64) (x2 : Int64) (x3 : Int64) (x4 : Int64) (x5 : Int64) (x6 : Int64) (x7 : Int64) (y0 : Int64) (y1 : Int64) (y2 : Int64) (y3 : Int64) (y4 : Int64) (y5 : Int64) (y6 : Int64) (y7 : Int64) : Int64 := (((own_v1_159 x0 x1 x2 x3 x4 x5 x6 x7 y0 y1 y2 y3 y4 y5 y6 y7).toUInt64 >>> (32 : UInt64)).toInt64)
set_option maxRecDepth 65536 in
set_option maxHeartbeats 40000000 in
theorem own_rm1 (l : Launch) (Z : State) (a0 : Array Value) (hw : ∀ d ∈ tables_1, d.before a0 Z = true) (a1 : Addr) (r0 : Int64) (r1 : Int64) (r2 : Int64) (r3 : Int64) (r4 : Int64) (r5 : Int64) (r6 : Int64) (r7 : Int64) (a2 : Addr) (x0 : Int64) (x1 : Int64) (x2 : Int64) (x3 : Int64) (x4 : Int64) (x5 : Int64) (x6 : Int64) (x7 : Int64) (a3 : Addr) (y0 : Int64) (y1 : Int64) (y2 : Int64) (y3 : Int64) (y4 : Int64) (y5 : Int64) (y6 : Int64) (y7 : Int64) (h0 : Heap) (n0 : Nat) (Z0 : n0 ≤ h0.size) (V_a1 : own_W Z h0 a1 (8 : Int32) [r0, r1, r2, r3, r4, r5, r6, r7]) (V_a2 : own_W Z h0 a2 (8 : Int32) [x0, x1, x2, x3, x4, x5, x6, x7]) (V_a3 : own_W Z h0 a3 (8 : Int32) [y0, y1, y2, y3, y4, y5, y6, y7]) (n21 : a2 ≠ a1) (n31 : a3 ≠ a1) (g_a1 : n0 ≤ a1) :
    own_Con l Z (⟨"marketmint/Words256", "add", "([J[J[J)J"⟩ : MethodName) prog_96_method_2_code 5 (some .long) ({ frames := 0, cells := 0, slots := 0, locals := 0 } : Room) #[(.ref a1), (.ref a2), (.ref a3)] h0 n0 (fun v h => v = some (.long (own_F1 r0 r1 r2 r3 r4 r5 r6 r7 x0 x1 x2 x3 x4 x5 x6 x7 y0 y1 y2 y3 y4 y5 y6 y7)) ∧ Keep h0 h [a1] ∧ own_W Z h a1 (8 : Int32) [(own_v1_15 x0 y0), (own_v1_36 x0 x1 y0 y1), (own_v1_57 x0 x1 x2 y0 y1 y2), (own_v1_78 x0 x1 x2 x3 y0 y1 y2 y3), (own_v1_99 x0 x1 x2 x3 x4 y0 y1 y2 y3 y4), (own_v1_120 x0 x1 x2 x3 x4 x5 y0 y1 y2 y3 y4 y5), (own_v1_144 x0 x1 x2 x3 x4 x5 x6 y0 y1 y2 y3 y4 y5 y6), (own_v1_168 x0 x1 x2 x3 x4 x5 x6 x7 y0 y1 y2 y3 y4 y5 y6 y7)]) := by
  refine own_enter own_pf1 Z0 (own_ef1 a1 a2 a3) ?_
  intro p e s m below meth c T0 X0 hret hnm
  refine own_aloadN X0 own_d1_0 (pc' := 1) rfl (v := (.ref a2)) rfl rfl ?_
  refine own_iconst X0 own_d1_1 (pc' := 2) rfl (z := (0 : Int32)) rfl ?_
  refine own_laload X0 V_a2 (by decide) (by decide) (y := x0) rfl own_d1_2 (pc' := 3) rfl ?_
  refine own_aloadN X0 own_d1_3 (pc' := 4) rfl (v := (.ref a3)) rfl rfl ?_
  refine own_iconst X0 own_d1_4 (pc' := 5) rfl (z := (0 : Int32)) rfl ?_
  refine own_laload X0 V_a3 (by decide) (by decide) (y := y0) rfl own_d1_5 (pc' := 6) rfl ?_
  refine own_ladd X0 own_d1_6 (pc' := 7) rfl (z := (x0 + y0)) rfl ?_
  refine own_lstoreN X0 own_d1_7 (pc' := 8) rfl (y := (x0 + y0)) rfl (Ls' := #[.val (.ref a1), .val (.ref a2), .val (.ref a3), .val (.long (x0 + y0)), .second]) rfl ?_
  refine own_aloadN X0 own_d1_8 (pc' := 9) rfl (v := (.ref a1)) rfl rfl ?_
  refine own_iconst X0 own_d1_9 (pc' := 10) rfl (z := (0 : Int32)) rfl ?_
  refine own_lloadN X0 own_d1_10 (pc' := 11) rfl (v := (x0 + y0)) rfl ?_
  refine own_ldc2 X0 (hw _ (List.mem_of_getElem? (i := 8) rfl)) own_d1_11 (pc' := 14) rfl ?_
  refine own_land X0 own_d1_14 (pc' := 15) rfl (z := ((x0 + y0) &&& (4294967295 : Int64))) rfl ?_
  refine own_lastore X0 V_a1 g_a1 (x := (own_v1_15 x0 y0)) rfl 0 rfl (by decide) (by decide) own_d1_15 (pc' := 16) rfl fun T1 h2 lc4 X3 W5 V6 => ?_
  replace V6 : own_W Z h2 a1 (8 : Int32) [(own_v1_15 x0 y0), r1, r2, r3, r4, r5, r6, r7] := V6
  have V7 := V_a2.other W5 n21
  have V8 := V_a3.other W5 n31
  have K9 := Keep.wr (Keep.refl h0 [a1]) W5 (Or.inl (List.mem_of_getElem? (i := 0) rfl))
  refine own_lloadN X3 own_d1_16 (pc' := 17) rfl (v := (x0 + y0)) rfl ?_
  refine own_bipush X3 own_d1_17 (pc' := 19) rfl (z := (32 : Int32)) rfl ?_
  refine own_lushr X3 own_d1_19 (pc' := 20) rfl (z := (((x0 + y0).toUInt64 >>> (32 : UInt64)).toInt64)) rfl ?_
  refine own_aloadN X3 own_d1_20 (pc' := 21) rfl (v := (.ref a2)) rfl rfl ?_
  refine own_iconst X3 own_d1_21 (pc' := 22) rfl (z := (1 : Int32)) rfl ?_
  refine own_laload X3 V7 (by decide) (by decide) (y := x1) rfl own_d1_22 (pc' := 23) rfl ?_
  refine own_ladd X3 own_d1_23 (pc' := 24) rfl (z := ((((x0 + y0).toUInt64 >>> (32 : UInt64)).toInt64) + x1)) rfl ?_
  refine own_aloadN X3 own_d1_24 (pc' := 25) rfl (v := (.ref a3)) rfl rfl ?_
  refine own_iconst X3 own_d1_25 (pc' := 26) rfl (z := (1 : Int32)) rfl ?_
  refine own_laload X3 V8 (by decide) (by decide) (y := y1) rfl own_d1_26 (pc' := 27) rfl ?_
  refine own_ladd X3 own_d1_27 (pc' := 28) rfl (z := (((((x0 + y0).toUInt64 >>> (32 : UInt64)).toInt64) + x1) + y1)) rfl ?_
  refine own_lstoreN X3 own_d1_28 (pc' := 29) rfl (y := (own_v1_28 x0 x1 y0 y1)) rfl (Ls' := #[.val (.ref a1), .val (.ref a2), .val (.ref a3), .val (.long (own_v1_28 x0 x1 y0 y1)), .second]) rfl ?_
  refine own_aloadN X3 own_d1_29 (pc' := 30) rfl (v := (.ref a1)) rfl rfl ?_
  refine own_iconst X3 own_d1_30 (pc' := 31) rfl (z := (1 : Int32)) rfl ?_
  refine own_lloadN X3 own_d1_31 (pc' := 32) rfl (v := (own_v1_28 x0 x1 y0 y1)) rfl ?_
  refine own_ldc2 X3 (hw _ (List.mem_of_getElem? (i := 8) rfl)) own_d1_32 (pc' := 35) rfl ?_
  refine own_land X3 own_d1_35 (pc' := 36) rfl (z := ((own_v1_28 x0 x1 y0 y1) &&& (4294967295 : Int64))) rfl ?_
  refine own_lastore X3 V6 g_a1 (x := (own_v1_36 x0 x1 y0 y1)) rfl 1 rfl (by decide) (by decide) own_d1_36 (pc' := 37) rfl fun T10 h11 lc13 X12 W14 V15 => ?_
  replace V15 : own_W Z h11 a1 (8 : Int32) [(own_v1_15 x0 y0), (own_v1_36 x0 x1 y0 y1), r2, r3, r4, r5, r6, r7] := V15
  have V16 := V7.other W14 n21
  have V17 := V8.other W14 n31
  have K18 := Keep.wr K9 W14 (Or.inl (List.mem_of_getElem? (i := 0) rfl))
  refine own_lloadN X12 own_d1_37 (pc' := 38) rfl (v := (own_v1_28 x0 x1 y0 y1)) rfl ?_
  refine own_bipush X12 own_d1_38 (pc' := 40) rfl (z := (32 : Int32)) rfl ?_
  refine own_lushr X12 own_d1_40 (pc' := 41) rfl (z := (((own_v1_28 x0 x1 y0 y1).toUInt64 >>> (32 : UInt64)).toInt64)) rfl ?_
  refine own_aloadN X12 own_d1_41 (pc' := 42) rfl (v := (.ref a2)) rfl rfl ?_
  refine own_iconst X12 own_d1_42 (pc' := 43) rfl (z := (2 : Int32)) rfl ?_
  refine own_laload X12 V16 (by decide) (by decide) (y := x2) rfl own_d1_43 (pc' := 44) rfl ?_
  refine own_ladd X12 own_d1_44 (pc' := 45) rfl (z := ((((own_v1_28 x0 x1 y0 y1).toUInt64 >>> (32 : UInt64)).toInt64) + x2)) rfl ?_
  refine own_aloadN X12 own_d1_45 (pc' := 46) rfl (v := (.ref a3)) rfl rfl ?_
  refine own_iconst X12 own_d1_46 (pc' := 47) rfl (z := (2 : Int32)) rfl ?_
  refine own_laload X12 V17 (by decide) (by decide) (y := y2) rfl own_d1_47 (pc' := 48) rfl ?_
  refine own_ladd X12 own_d1_48 (pc' := 49) rfl (z := (((((own_v1_28 x0 x1 y0 y1).toUInt64 >>> (32 : UInt64)).toInt64) + x2) + y2)) rfl ?_
  refine own_lstoreN X12 own_d1_49 (pc' := 50) rfl (y := (own_v1_49 x0 x1 x2 y0 y1 y2)) rfl (Ls' := #[.val (.ref a1), .val (.ref a2), .val (.ref a3), .val (.long (own_v1_49 x0 x1 x2 y0 y1 y2)), .second]) rfl ?_
  refine own_aloadN X12 own_d1_50 (pc' := 51) rfl (v := (.ref a1)) rfl rfl ?_
  refine own_iconst X12 own_d1_51 (pc' := 52) rfl (z := (2 : Int32)) rfl ?_
  refine own_lloadN X12 own_d1_52 (pc' := 53) rfl (v := (own_v1_49 x0 x1 x2 y0 y1 y2)) rfl ?_
  refine own_ldc2 X12 (hw _ (List.mem_of_getElem? (i := 8) rfl)) own_d1_53 (pc' := 56) rfl ?_
  refine own_land X12 own_d1_56 (pc' := 57) rfl (z := ((own_v1_49 x0 x1 x2 y0 y1 y2) &&& (4294967295 : Int64))) rfl ?_
  refine own_lastore X12 V15 g_a1 (x := (own_v1_57 x0 x1 x2 y0 y1 y2)) rfl 2 rfl (by decide) (by decide) own_d1_57 (pc' := 58) rfl fun T19 h20 lc22 X21 W23 V24 => ?_
  replace V24 : own_W Z h20 a1 (8 : Int32) [(own_v1_15 x0 y0), (own_v1_36 x0 x1 y0 y1), (own_v1_57 x0 x1 x2 y0 y1 y2), r3, r4, r5, r6, r7] := V24
  have V25 := V16.other W23 n21
  have V26 := V17.other W23 n31
  have K27 := Keep.wr K18 W23 (Or.inl (List.mem_of_getElem? (i := 0) rfl))
  refine own_lloadN X21 own_d1_58 (pc' := 59) rfl (v := (own_v1_49 x0 x1 x2 y0 y1 y2)) rfl ?_
  refine own_bipush X21 own_d1_59 (pc' := 61) rfl (z := (32 : Int32)) rfl ?_
  refine own_lushr X21 own_d1_61 (pc' := 62) rfl (z := (((own_v1_49 x0 x1 x2 y0 y1 y2).toUInt64 >>> (32 : UInt64)).toInt64)) rfl ?_
  refine own_aloadN X21 own_d1_62 (pc' := 63) rfl (v := (.ref a2)) rfl rfl ?_
  refine own_iconst X21 own_d1_63 (pc' := 64) rfl (z := (3 : Int32)) rfl ?_
  refine own_laload X21 V25 (by decide) (by decide) (y := x3) rfl own_d1_64 (pc' := 65) rfl ?_
  refine own_ladd X21 own_d1_65 (pc' := 66) rfl (z := ((((own_v1_49 x0 x1 x2 y0 y1 y2).toUInt64 >>> (32 : UInt64)).toInt64) + x3)) rfl ?_
  refine own_aloadN X21 own_d1_66 (pc' := 67) rfl (v := (.ref a3)) rfl rfl ?_
  refine own_iconst X21 own_d1_67 (pc' := 68) rfl (z := (3 : Int32)) rfl ?_
  refine own_laload X21 V26 (by decide) (by decide) (y := y3) rfl own_d1_68 (pc' := 69) rfl ?_
  refine own_ladd X21 own_d1_69 (pc' := 70) rfl (z := (((((own_v1_49 x0 x1 x2 y0 y1 y2).toUInt64 >>> (32 : UInt64)).toInt64) + x3) + y3)) rfl ?_
  refine own_lstoreN X21 own_d1_70 (pc' := 71) rfl (y := (own_v1_70 x0 x1 x2 x3 y0 y1 y2 y3)) rfl (Ls' := #[.val (.ref a1), .val (.ref a2), .val (.ref a3), .val (.long (own_v1_70 x0 x1 x2 x3 y0 y1 y2 y3)), .second]) rfl ?_
  refine own_aloadN X21 own_d1_71 (pc' := 72) rfl (v := (.ref a1)) rfl rfl ?_
  refine own_iconst X21 own_d1_72 (pc' := 73) rfl (z := (3 : Int32)) rfl ?_
  refine own_lloadN X21 own_d1_73 (pc' := 74) rfl (v := (own_v1_70 x0 x1 x2 x3 y0 y1 y2 y3)) rfl ?_
  refine own_ldc2 X21 (hw _ (List.mem_of_getElem? (i := 8) rfl)) own_d1_74 (pc' := 77) rfl ?_
  refine own_land X21 own_d1_77 (pc' := 78) rfl (z := ((own_v1_70 x0 x1 x2 x3 y0 y1 y2 y3) &&& (4294967295 : Int64))) rfl ?_
  refine own_lastore X21 V24 g_a1 (x := (own_v1_78 x0 x1 x2 x3 y0 y1 y2 y3)) rfl 3 rfl (by decide) (by decide) own_d1_78 (pc' := 79) rfl fun T28 h29 lc31 X30 W32 V33 => ?_
  replace V33 : own_W Z h29 a1 (8 : Int32) [(own_v1_15 x0 y0), (own_v1_36 x0 x1 y0 y1), (own_v1_57 x0 x1 x2 y0 y1 y2), (own_v1_78 x0 x1 x2 x3 y0 y1 y2 y3), r4, r5, r6, r7] := V33
  have V34 := V25.other W32 n21
  have V35 := V26.other W32 n31
  have K36 := Keep.wr K27 W32 (Or.inl (List.mem_of_getElem? (i := 0) rfl))
  refine own_lloadN X30 own_d1_79 (pc' := 80) rfl (v := (own_v1_70 x0 x1 x2 x3 y0 y1 y2 y3)) rfl ?_
  refine own_bipush X30 own_d1_80 (pc' := 82) rfl (z := (32 : Int32)) rfl ?_
  refine own_lushr X30 own_d1_82 (pc' := 83) rfl (z := (((own_v1_70 x0 x1 x2 x3 y0 y1 y2 y3).toUInt64 >>> (32 : UInt64)).toInt64)) rfl ?_
  refine own_aloadN X30 own_d1_83 (pc' := 84) rfl (v := (.ref a2)) rfl rfl ?_
  refine own_iconst X30 own_d1_84 (pc' := 85) rfl (z := (4 : Int32)) rfl ?_
  refine own_laload X30 V34 (by decide) (by decide) (y := x4) rfl own_d1_85 (pc' := 86) rfl ?_
  refine own_ladd X30 own_d1_86 (pc' := 87) rfl (z := ((((own_v1_70 x0 x1 x2 x3 y0 y1 y2 y3).toUInt64 >>> (32 : UInt64)).toInt64) + x4)) rfl ?_
  refine own_aloadN X30 own_d1_87 (pc' := 88) rfl (v := (.ref a3)) rfl rfl ?_
  refine own_iconst X30 own_d1_88 (pc' := 89) rfl (z := (4 : Int32)) rfl ?_
  refine own_laload X30 V35 (by decide) (by decide) (y := y4) rfl own_d1_89 (pc' := 90) rfl ?_
  refine own_ladd X30 own_d1_90 (pc' := 91) rfl (z := (((((own_v1_70 x0 x1 x2 x3 y0 y1 y2 y3).toUInt64 >>> (32 : UInt64)).toInt64) + x4) + y4)) rfl ?_
  refine own_lstoreN X30 own_d1_91 (pc' := 92) rfl (y := (own_v1_91 x0 x1 x2 x3 x4 y0 y1 y2 y3 y4)) rfl (Ls' := #[.val (.ref a1), .val (.ref a2), .val (.ref a3), .val (.long (own_v1_91 x0 x1 x2 x3 x4 y0 y1 y2 y3 y4)), .second]) rfl ?_
  refine own_aloadN X30 own_d1_92 (pc' := 93) rfl (v := (.ref a1)) rfl rfl ?_
  refine own_iconst X30 own_d1_93 (pc' := 94) rfl (z := (4 : Int32)) rfl ?_
  refine own_lloadN X30 own_d1_94 (pc' := 95) rfl (v := (own_v1_91 x0 x1 x2 x3 x4 y0 y1 y2 y3 y4)) rfl ?_
  refine own_ldc2 X30 (hw _ (List.mem_of_getElem? (i := 8) rfl)) own_d1_95 (pc' := 98) rfl ?_
  refine own_land X30 own_d1_98 (pc' := 99) rfl (z := ((own_v1_91 x0 x1 x2 x3 x4 y0 y1 y2 y3 y4) &&& (4294967295 : Int64))) rfl ?_
  refine own_lastore X30 V33 g_a1 (x := (own_v1_99 x0 x1 x2 x3 x4 y0 y1 y2 y3 y4)) rfl 4 rfl (by decide) (by decide) own_d1_99 (pc' := 100) rfl fun T37 h38 lc40 X39 W41 V42 => ?_
  replace V42 : own_W Z h38 a1 (8 : Int32) [(own_v1_15 x0 y0), (own_v1_36 x0 x1 y0 y1), (own_v1_57 x0 x1 x2 y0 y1 y2), (own_v1_78 x0 x1 x2 x3 y0 y1 y2 y3), (own_v1_99 x0 x1 x2 x3 x4 y0 y1 y2 y3 y4), r5, r6, r7] := V42
  have V43 := V34.other W41 n21
  have V44 := V35.other W41 n31
  have K45 := Keep.wr K36 W41 (Or.inl (List.mem_of_getElem? (i := 0) rfl))
  refine own_lloadN X39 own_d1_100 (pc' := 101) rfl (v := (own_v1_91 x0 x1 x2 x3 x4 y0 y1 y2 y3 y4)) rfl ?_
  refine own_bipush X39 own_d1_101 (pc' := 103) rfl (z := (32 : Int32)) rfl ?_
  refine own_lushr X39 own_d1_103 (pc' := 104) rfl (z := (((own_v1_91 x0 x1 x2 x3 x4 y0 y1 y2 y3 y4).toUInt64 >>> (32 : UInt64)).toInt64)) rfl ?_
  refine own_aloadN X39 own_d1_104 (pc' := 105) rfl (v := (.ref a2)) rfl rfl ?_
  refine own_iconst X39 own_d1_105 (pc' := 106) rfl (z := (5 : Int32)) rfl ?_
  refine own_laload X39 V43 (by decide) (by decide) (y := x5) rfl own_d1_106 (pc' := 107) rfl ?_
  refine own_ladd X39 own_d1_107 (pc' := 108) rfl (z := ((((own_v1_91 x0 x1 x2 x3 x4 y0 y1 y2 y3 y4).toUInt64 >>> (32 : UInt64)).toInt64) + x5)) rfl ?_
  refine own_aloadN X39 own_d1_108 (pc' := 109) rfl (v := (.ref a3)) rfl rfl ?_
  refine own_iconst X39 own_d1_109 (pc' := 110) rfl (z := (5 : Int32)) rfl ?_
  refine own_laload X39 V44 (by decide) (by decide) (y := y5) rfl own_d1_110 (pc' := 111) rfl ?_
  refine own_ladd X39 own_d1_111 (pc' := 112) rfl (z := (((((own_v1_91 x0 x1 x2 x3 x4 y0 y1 y2 y3 y4).toUInt64 >>> (32 : UInt64)).toInt64) + x5) + y5)) rfl ?_
  refine own_lstoreN X39 own_d1_112 (pc' := 113) rfl (y := (own_v1_112 x0 x1 x2 x3 x4 x5 y0 y1 y2 y3 y4 y5)) rfl (Ls' := #[.val (.ref a1), .val (.ref a2), .val (.ref a3), .val (.long (own_v1_112 x0 x1 x2 x3 x4 x5 y0 y1 y2 y3 y4 y5)), .second]) rfl ?_
  refine own_aloadN X39 own_d1_113 (pc' := 114) rfl (v := (.ref a1)) rfl rfl ?_
  refine own_iconst X39 own_d1_114 (pc' := 115) rfl (z := (5 : Int32)) rfl ?_
  refine own_lloadN X39 own_d1_115 (pc' := 116) rfl (v := (own_v1_112 x0 x1 x2 x3 x4 x5 y0 y1 y2 y3 y4 y5)) rfl ?_
  refine own_ldc2 X39 (hw _ (List.mem_of_getElem? (i := 8) rfl)) own_d1_116 (pc' := 119) rfl ?_
  refine own_land X39 own_d1_119 (pc' := 120) rfl (z := ((own_v1_112 x0 x1 x2 x3 x4 x5 y0 y1 y2 y3 y4 y5) &&& (4294967295 : Int64))) rfl ?_
  refine own_lastore X39 V42 g_a1 (x := (own_v1_120 x0 x1 x2 x3 x4 x5 y0 y1 y2 y3 y4 y5)) rfl 5 rfl (by decide) (by decide) own_d1_120 (pc' := 121) rfl fun T46 h47 lc49 X48 W50 V51 => ?_
  replace V51 : own_W Z h47 a1 (8 : Int32) [(own_v1_15 x0 y0), (own_v1_36 x0 x1 y0 y1), (own_v1_57 x0 x1 x2 y0 y1 y2), (own_v1_78 x0 x1 x2 x3 y0 y1 y2 y3), (own_v1_99 x0 x1 x2 x3 x4 y0 y1 y2 y3 y4), (own_v1_120 x0 x1 x2 x3 x4 x5 y0 y1 y2 y3 y4 y5), r6, r7] := V51
  have V52 := V43.other W50 n21
  have V53 := V44.other W50 n31
  have K54 := Keep.wr K45 W50 (Or.inl (List.mem_of_getElem? (i := 0) rfl))
  refine own_lloadN X48 own_d1_121 (pc' := 122) rfl (v := (own_v1_112 x0 x1 x2 x3 x4 x5 y0 y1 y2 y3 y4 y5)) rfl ?_
  refine own_bipush X48 own_d1_122 (pc' := 124) rfl (z := (32 : Int32)) rfl ?_
  refine own_lushr X48 own_d1_124 (pc' := 125) rfl (z := (((own_v1_112 x0 x1 x2 x3 x4 x5 y0 y1 y2 y3 y4 y5).toUInt64 >>> (32 : UInt64)).toInt64)) rfl ?_
  refine own_aloadN X48 own_d1_125 (pc' := 126) rfl (v := (.ref a2)) rfl rfl ?_
  refine own_bipush X48 own_d1_126 (pc' := 128) rfl (z := (6 : Int32)) rfl ?_
  refine own_laload X48 V52 (by decide) (by decide) (y := x6) rfl own_d1_128 (pc' := 129) rfl ?_
  refine own_ladd X48 own_d1_129 (pc' := 130) rfl (z := ((((own_v1_112 x0 x1 x2 x3 x4 x5 y0 y1 y2 y3 y4 y5).toUInt64 >>> (32 : UInt64)).toInt64) + x6)) rfl ?_
  refine own_aloadN X48 own_d1_130 (pc' := 131) rfl (v := (.ref a3)) rfl rfl ?_
  refine own_bipush X48 own_d1_131 (pc' := 133) rfl (z := (6 : Int32)) rfl ?_
  refine own_laload X48 V53 (by decide) (by decide) (y := y6) rfl own_d1_133 (pc' := 134) rfl ?_
  refine own_ladd X48 own_d1_134 (pc' := 135) rfl (z := (((((own_v1_112 x0 x1 x2 x3 x4 x5 y0 y1 y2 y3 y4 y5).toUInt64 >>> (32 : UInt64)).toInt64) + x6) + y6)) rfl ?_
  refine own_lstoreN X48 own_d1_135 (pc' := 136) rfl (y := (own_v1_135 x0 x1 x2 x3 x4 x5 x6 y0 y1 y2 y3 y4 y5 y6)) rfl (Ls' := #[.val (.ref a1), .val (.ref a2), .val (.ref a3), .val (.long (own_v1_135 x0 x1 x2 x3 x4 x5 x6 y0 y1 y2 y3 y4 y5 y6)), .second]) rfl ?_
  refine own_aloadN X48 own_d1_136 (pc' := 137) rfl (v := (.ref a1)) rfl rfl ?_
  refine own_bipush X48 own_d1_137 (pc' := 139) rfl (z := (6 : Int32)) rfl ?_
  refine own_lloadN X48 own_d1_139 (pc' := 140) rfl (v := (own_v1_135 x0 x1 x2 x3 x4 x5 x6 y0 y1 y2 y3 y4 y5 y6)) rfl ?_
  refine own_ldc2 X48 (hw _ (List.mem_of_getElem? (i := 8) rfl)) own_d1_140 (pc' := 143) rfl ?_
  refine own_land X48 own_d1_143 (pc' := 144) rfl (z := ((own_v1_135 x0 x1 x2 x3 x4 x5 x6 y0 y1 y2 y3 y4 y5 y6) &&& (4294967295 : Int64))) rfl ?_
  refine own_lastore X48 V51 g_a1 (x := (own_v1_144 x0 x1 x2 x3 x4 x5 x6 y0 y1 y2 y3 y4 y5 y6)) rfl 6 rfl (by decide) (by decide) own_d1_144 (pc' := 145) rfl fun T55 h56 lc58 X57 W59 V60 => ?_
  replace V60 : own_W Z h56 a1 (8 : Int32) [(own_v1_15 x0 y0), (own_v1_36 x0 x1 y0 y1), (own_v1_57 x0 x1 x2 y0 y1 y2), (own_v1_78 x0 x1 x2 x3 y0 y1 y2 y3), (own_v1_99 x0 x1 x2 x3 x4 y0 y1 y2 y3 y4), (own_v1_120 x0 x1 x2 x3 x4 x5 y0 y1 y2 y3 y4 y5), (own_v1_144 x0 x1 x2 x3 x4 x5 x6 y0 y1 y2 y3 y4 y5 y6), r7] := V60
  have V61 := V52.other W59 n21
  have V62 := V53.other W59 n31
  have K63 := Keep.wr K54 W59 (Or.inl (List.mem_of_getElem? (i := 0) rfl))
  refine own_lloadN X57 own_d1_145 (pc' := 146) rfl (v := (own_v1_135 x0 x1 x2 x3 x4 x5 x6 y0 y1 y2 y3 y4 y5 y6)) rfl ?_
  refine own_bipush X57 own_d1_146 (pc' := 148) rfl (z := (32 : Int32)) rfl ?_
  refine own_lushr X57 own_d1_148 (pc' := 149) rfl (z := (((own_v1_135 x0 x1 x2 x3 x4 x5 x6 y0 y1 y2 y3 y4 y5 y6).toUInt64 >>> (32 : UInt64)).toInt64)) rfl ?_
  refine own_aloadN X57 own_d1_149 (pc' := 150) rfl (v := (.ref a2)) rfl rfl ?_
  refine own_bipush X57 own_d1_150 (pc' := 152) rfl (z := (7 : Int32)) rfl ?_
  refine own_laload X57 V61 (by decide) (by decide) (y := x7) rfl own_d1_152 (pc' := 153) rfl ?_
  refine own_ladd X57 own_d1_153 (pc' := 154) rfl (z := ((((own_v1_135 x0 x1 x2 x3 x4 x5 x6 y0 y1 y2 y3 y4 y5 y6).toUInt64 >>> (32 : UInt64)).toInt64) + x7)) rfl ?_
  refine own_aloadN X57 own_d1_154 (pc' := 155) rfl (v := (.ref a3)) rfl rfl ?_
  refine own_bipush X57 own_d1_155 (pc' := 157) rfl (z := (7 : Int32)) rfl ?_
  refine own_laload X57 V62 (by decide) (by decide) (y := y7) rfl own_d1_157 (pc' := 158) rfl ?_
  refine own_ladd X57 own_d1_158 (pc' := 159) rfl (z := (((((own_v1_135 x0 x1 x2 x3 x4 x5 x6 y0 y1 y2 y3 y4 y5 y6).toUInt64 >>> (32 : UInt64)).toInt64) + x7) + y7)) rfl ?_
  refine own_lstoreN X57 own_d1_159 (pc' := 160) rfl (y := (own_v1_159 x0 x1 x2 x3 x4 x5 x6 x7 y0 y1 y2 y3 y4 y5 y6 y7)) rfl (Ls' := #[.val (.ref a1), .val (.ref a2), .val (.ref a3), .val (.long (own_v1_159 x0 x1 x2 x3 x4 x5 x6 x7 y0 y1 y2 y3 y4 y5 y6 y7)), .second]) rfl ?_
  refine own_aloadN X57 own_d1_160 (pc' := 161) rfl (v := (.ref a1)) rfl rfl ?_
  refine own_bipush X57 own_d1_161 (pc' := 163) rfl (z := (7 : Int32)) rfl ?_
  refine own_lloadN X57 own_d1_163 (pc' := 164) rfl (v := (own_v1_159 x0 x1 x2 x3 x4 x5 x6 x7 y0 y1 y2 y3 y4 y5 y6 y7)) rfl ?_
  refine own_ldc2 X57 (hw _ (List.mem_of_getElem? (i := 8) rfl)) own_d1_164 (pc' := 167) rfl ?_
  refine own_land X57 own_d1_167 (pc' := 168) rfl (z := ((own_v1_159 x0 x1 x2 x3 x4 x5 x6 x7 y0 y1 y2 y3 y4 y5 y6 y7) &&& (4294967295 : Int64))) rfl ?_
  refine own_lastore X57 V60 g_a1 (x := (own_v1_168 x0 x1 x2 x3 x4 x5 x6 x7 y0 y1 y2 y3 y4 y5 y6 y7)) rfl 7 rfl (by decide) (by decide) own_d1_168 (pc' := 169) rfl fun T64 h65 lc67 X66 W68 V69 => ?_
  replace V69 : own_W Z h65 a1 (8 : Int32) [(own_v1_15 x0 y0), (own_v1_36 x0 x1 y0 y1), (own_v1_57 x0 x1 x2 y0 y1 y2), (own_v1_78 x0 x1 x2 x3 y0 y1 y2 y3), (own_v1_99 x0 x1 x2 x3 x4 y0 y1 y2 y3 y4), (own_v1_120 x0 x1 x2 x3 x4 x5 y0 y1 y2 y3 y4 y5), (own_v1_144 x0 x1 x2 x3 x4 x5 x6 y0 y1 y2 y3 y4 y5 y6), (own_v1_168 x0 x1 x2 x3 x4 x5 x6 x7 y0 y1 y2 y3 y4 y5 y6 y7)] := V69
  have V70 := V61.other W68 n21
  have V71 := V62.other W68 n31
  have K72 := Keep.wr K63 W68 (Or.inl (List.mem_of_getElem? (i := 0) rfl))
  refine own_lloadN X66 own_d1_169 (pc' := 170) rfl (v := (own_v1_159 x0 x1 x2 x3 x4 x5 x6 x7 y0 y1 y2 y3 y4 y5 y6 y7)) rfl ?_
  refine own_bipush X66 own_d1_170 (pc' := 172) rfl (z := (32 : Int32)) rfl ?_
  refine own_lushr X66 own_d1_172 (pc' := 173) rfl (z := (((own_v1_159 x0 x1 x2 x3 x4 x5 x6 x7 y0 y1 y2 y3 y4 y5 y6 y7).toUInt64 >>> (32 : UInt64)).toInt64)) rfl ?_
  refine own_lret X66 hret own_d1_173 (by decide) (by decide) ?_
  exact ⟨congrArg (fun t => some (Value.long t)) (show (((own_v1_159 x0 x1 x2 x3 x4 x5 x6 x7 y0 y1 y2 y3 y4 y5 y6 y7).toUInt64 >>> (32 : UInt64)).toInt64) = own_F1 r0 r1 r2 r3 r4 r5 r6 r7 x0 x1 x2 x3 x4 x5 x6 x7 y0 y1 y2 y3 y4 y5 y6 y7 from rfl), K72, V69⟩
theorem own_d3_0 : decode method_2_code 0 = .ok (.lload_n 0, 1) := by decide +kernel
theorem own_d3_1 : decode method_2_code 1 = .ok (.ldc2_w 7, 3) := by decide +kernel
theorem own_d3_4 : decode method_2_code 4 = .ok (.lxor, 1) := by decide +kernel
theorem own_d3_5 : decode method_2_code 5 = .ok (.lload_n 2, 1) := by decide +kernel
theorem own_d3_6 : decode method_2_code 6 = .ok (.ldc2_w 7, 3) := by decide +kernel
theorem own_d3_9 : decode method_2_code 9 = .ok (.lxor, 1) := by decide +kernel
theorem own_d3_10 : decode method_2_code 10 = .ok (.lcmp, 1) := by decide +kernel
theorem own_d3_11 : decode method_2_code 11 = .ok (.ifCond .ge 7, 3) := by decide +kernel
theorem own_d3_14 : decode method_2_code 14 = .ok (.iconst 1, 1) := by decide +kernel
theorem own_d3_15 : decode method_2_code 15 = .ok (.goto 4, 3) := by decide +kernel
theorem own_d3_18 : decode method_2_code 18 = .ok (.iconst 0, 1) := by decide +kernel
theorem own_d3_19 : decode method_2_code 19 = .ok (.ireturn, 1) := by decide +kernel
theorem own_ef3 (q1 : Int64) (q2 : Int64) (m : MethodId) : entryFrame m #[(.long q1), (.long q2)] 4 = mkF m 0 #[.val (.long q1), .second, .val (.long q2), .second] [] := by first | (simp [entryFrame, mkF, argsToLocals, Value.category]; done) | rfl
theorem own_pf3 : plainFor (⟨"marketmint/Words256AddPinLaw", "below", "(JJ)Z"⟩ : MethodName) = true := by first | exact plainFor_of_name (by first | (simp [plainName, overriddenIn]; done) | decide +kernel) | decide +kernel
def own_F3 (q1 : Int64) (q2 : Int64) : Int32 := (if (q1 ^^^ (-9223372036854775808 : Int64)) < (q2 ^^^ (-9223372036854775808 : Int64)) then (1 : Int32) else (0 : Int32))
set_option maxRecDepth 65536 in
set_option maxHeartbeats 40000000 in
theorem own_rm3 (l : Launch) (Z : State) (a0 : Array Value) (hw : ∀ d ∈ tables_1, d.before a0 Z = true) (q1 : Int64) (q2 : Int64) (h0 : Heap) (n0 : Nat) (Z0 : n0 ≤ h0.size) :
    own_Con l Z (⟨"marketmint/Words256AddPinLaw", "below", "(JJ)Z"⟩ : MethodName) method_2_code 4 (some .boolean) ({ frames := 0, cells := 0, slots := 0, locals := 0 } : Room) #[(.long q1), (.long q2)] h0 n0 (fun v h => v = some (.int (own_F3 q1 q2)) ∧ h = h0) := by
  refine own_enter own_pf3 Z0 (own_ef3 q1 q2) ?_
  intro p e s m below meth c T0 X0 hret hnm
  refine own_lloadN X0 own_d3_0 (pc' := 1) rfl (v := q1) rfl ?_
  refine own_ldc2 X0 (hw _ (List.mem_of_getElem? (i := 16) rfl)) own_d3_1 (pc' := 4) rfl ?_
  refine own_lxor X0 own_d3_4 (pc' := 5) rfl (z := (q1 ^^^ (-9223372036854775808 : Int64))) rfl ?_
  refine own_lloadN X0 own_d3_5 (pc' := 6) rfl (v := q2) rfl ?_
  refine own_ldc2 X0 (hw _ (List.mem_of_getElem? (i := 16) rfl)) own_d3_6 (pc' := 9) rfl ?_
  refine own_lxor X0 own_d3_9 (pc' := 10) rfl (z := (q2 ^^^ (-9223372036854775808 : Int64))) rfl ?_
  by_cases hc1 : (q1 ^^^ (-9223372036854775808 : Int64)) < (q2 ^^^ (-9223372036854775808 : Int64))
  · refine own_ljN X0 own_d3_10 rfl own_d3_11 (own_tltL hc1).2.1 (pc' := 14) rfl ?_
    refine own_iconst X0 own_d3_14 (pc' := 15) rfl (z := (1 : Int32)) rfl ?_
    refine own_goto X0 own_d3_15 (by decide) (pc' := 19) rfl ?_
    refine own_iret X0 (t := .boolean) (w := (1 : Int32)) hret (by simp) own_d3_19 rfl (by decide) (by decide) ?_
    exact ⟨congrArg (fun t => some (Value.int t)) (show (1 : Int32) = own_F3 q1 q2 from (by rw [own_F3, if_pos hc1])), rfl⟩
  · refine own_ljY X0 own_d3_10 rfl own_d3_11 (own_fltL hc1).2.1 (by decide) (pc' := 18) rfl ?_
    refine own_iconst X0 own_d3_18 (pc' := 19) rfl (z := (0 : Int32)) rfl ?_
    refine own_iret X0 (t := .boolean) (w := (0 : Int32)) hret (by simp) own_d3_19 rfl (by decide) (by decide) ?_
    exact ⟨congrArg (fun t => some (Value.int t)) (show (0 : Int32) = own_F3 q1 q2 from (by rw [own_F3, if_neg hc1])), rfl⟩
theorem own_pd0 : parseMethodDescriptor "(JJ)Z" = some ⟨[.long, .long], some .boolean⟩ := by decide +kernel
theorem own_d2_0 : decode method_3_code 0 = .ok (.lload_n 0, 1) := by decide +kernel
theorem own_d2_1 : decode method_3_code 1 = .ok (.lload_n 2, 1) := by decide +kernel
theorem own_d2_2 : decode method_3_code 2 = .ok (.invokestatic 9, 3) := by decide +kernel
theorem own_d2_5 : decode method_3_code 5 = .ok (.ifCond .ne 16, 3) := by decide +kernel
theorem own_d2_8 : decode method_3_code 8 = .ok (.lload 4, 2) := by decide +kernel
theorem own_d2_10 : decode method_3_code 10 = .ok (.lconst 0, 1) := by decide +kernel
theorem own_d2_11 : decode method_3_code 11 = .ok (.lcmp, 1) := by decide +kernel
theorem own_d2_12 : decode method_3_code 12 = .ok (.ifCond .eq 13, 3) := by decide +kernel
theorem own_d2_15 : decode method_3_code 15 = .ok (.lload_n 0, 1) := by decide +kernel
theorem own_d2_16 : decode method_3_code 16 = .ok (.lload_n 2, 1) := by decide +kernel
theorem own_d2_17 : decode method_3_code 17 = .ok (.lcmp, 1) := by decide +kernel
theorem own_d2_18 : decode method_3_code 18 = .ok (.ifCond .ne 7, 3) := by decide +kernel
theorem own_d2_21 : decode method_3_code 21 = .ok (.lconst 1, 1) := by decide +kernel
theorem own_d2_22 : decode method_3_code 22 = .ok (.goto 4, 3) := by decide +kernel
theorem own_d2_25 : decode method_3_code 25 = .ok (.lconst 0, 1) := by decide +kernel
theorem own_d2_26 : decode method_3_code 26 = .ok (.lreturn, 1) := by decide +kernel
theorem own_ef2 (q1 : Int64) (q2 : Int64) (q3 : Int64) (m : MethodId) : entryFrame m #[(.long q1), (.long q2), (.long q3)] 6 = mkF m 0 #[.val (.long q1), .second, .val (.long q2), .second, .val (.long q3), .second] [] := by first | (simp [entryFrame, mkF, argsToLocals, Value.category]; done) | rfl
theorem own_pf2 : plainFor (⟨"marketmint/Words256AddPinLaw", "carryOut", "(JJJ)J"⟩ : MethodName) = true := by first | exact plainFor_of_name (by first | (simp [plainName, overriddenIn]; done) | decide +kernel) | decide +kernel
def own_F2 (q1 : Int64) (q2 : Int64) (q3 : Int64) : Int64 := (if (own_F3 q1 q2) = (0 : Int32) then (if q3 = (0 : Int64) then (0 : Int64) else (if q1 = q2 then (1 : Int64) else (0 : Int64))) else (1 : Int64))
set_option maxRecDepth 65536 in
set_option maxHeartbeats 40000000 in
theorem own_rm2 (l : Launch) (Z : State) (a0 : Array Value) (hw : ∀ d ∈ tables_1, d.before a0 Z = true) (q1 : Int64) (q2 : Int64) (q3 : Int64) (h0 : Heap) (n0 : Nat) (Z0 : n0 ≤ h0.size) :
    own_Con l Z (⟨"marketmint/Words256AddPinLaw", "carryOut", "(JJJ)J"⟩ : MethodName) method_3_code 6 (some .long) ({ frames := 1, cells := 0, slots := 0, locals := 15 } : Room) #[(.long q1), (.long q2), (.long q3)] h0 n0 (fun v h => v = some (.long (own_F2 q1 q2 q3)) ∧ h = h0) := by
  refine own_enter own_pf2 Z0 (own_ef2 q1 q2 q3) ?_
  intro p e s m below meth c T0 X0 hret hnm
  refine own_lloadN X0 own_d2_0 (pc' := 1) rfl (v := q1) rfl ?_
  refine own_lloadN X0 own_d2_1 (pc' := 2) rfl (v := q2) rfl ?_
  refine own_callS X0 (argsL := [(.long q1), (.long q2)]) (S := []) (own_rm3 l Z a0 hw q1 q2 h0 n0 X0.2.2.2.2.2.2.2.2.1 ) (hw _ (List.mem_of_getElem? (i := 13) rfl)) (hw _ (List.mem_of_getElem? (i := 14) rfl)) (hw _ (List.mem_of_getElem? (i := 11) rfl)) (hw _ (List.mem_of_getElem? (i := 15) rfl)) (by decide) (by decide) 0 (by decide) rfl own_pd0 rfl rfl (Nat.le_of_eq rfl) (by decide) (by decide) own_d2_2 (pc' := 5) rfl fun T1 h2 lc3 r4 X5 Q6 => ?_
  obtain ⟨rfl, e7⟩ := Q6
  replace e7 := e7.symm
  subst e7
  show own_E p e below _ (T1.setTop (mkF m 5 #[.val (.long q1), .second, .val (.long q2), .second, .val (.long q3), .second] [(.int (own_F3 q1 q2))]))
  by_cases hc8 : (own_F3 q1 q2) = (0 : Int32)
  · refine own_ifN X5 own_d2_5 (teq hc8).2 (pc' := 8) rfl ?_
    refine own_lload X5 own_d2_8 (pc' := 10) rfl (v := q3) rfl ?_
    refine own_lconst X5 own_d2_10 (pc' := 11) rfl (z := (0 : Int64)) rfl ?_
    by_cases hc9 : q3 = (0 : Int64)
    · refine own_ljY X5 own_d2_11 rfl own_d2_12 (own_teqL hc9).1 (by decide) (pc' := 25) rfl ?_
      refine own_lconst X5 own_d2_25 (pc' := 26) rfl (z := (0 : Int64)) rfl ?_
      refine own_lret X5 hret own_d2_26 (by decide) (by decide) ?_
      exact ⟨congrArg (fun t => some (Value.long t)) (show (0 : Int64) = own_F2 q1 q2 q3 from (by rw [own_F2, if_pos hc8, if_pos hc9])), rfl⟩
    · refine own_ljN X5 own_d2_11 rfl own_d2_12 (own_feqL hc9).1 (pc' := 15) rfl ?_
      refine own_lloadN X5 own_d2_15 (pc' := 16) rfl (v := q1) rfl ?_
      refine own_lloadN X5 own_d2_16 (pc' := 17) rfl (v := q2) rfl ?_
      by_cases hc10 : q1 = q2
      · refine own_ljN X5 own_d2_17 rfl own_d2_18 (own_teqL hc10).2 (pc' := 21) rfl ?_
        refine own_lconst X5 own_d2_21 (pc' := 22) rfl (z := (1 : Int64)) rfl ?_
        refine own_goto X5 own_d2_22 (by decide) (pc' := 26) rfl ?_
        refine own_lret X5 hret own_d2_26 (by decide) (by decide) ?_
        exact ⟨congrArg (fun t => some (Value.long t)) (show (1 : Int64) = own_F2 q1 q2 q3 from (by rw [own_F2, if_pos hc8, if_neg hc9, if_pos hc10])), rfl⟩
      · refine own_ljY X5 own_d2_17 rfl own_d2_18 (own_feqL hc10).2 (by decide) (pc' := 25) rfl ?_
        refine own_lconst X5 own_d2_25 (pc' := 26) rfl (z := (0 : Int64)) rfl ?_
        refine own_lret X5 hret own_d2_26 (by decide) (by decide) ?_
        exact ⟨congrArg (fun t => some (Value.long t)) (show (0 : Int64) = own_F2 q1 q2 q3 from (by rw [own_F2, if_pos hc8, if_neg hc9, if_neg hc10])), rfl⟩
  · refine own_ifY X5 own_d2_5 (feq hc8).2 (by decide) (pc' := 21) rfl ?_
    refine own_lconst X5 own_d2_21 (pc' := 22) rfl (z := (1 : Int64)) rfl ?_
    refine own_goto X5 own_d2_22 (by decide) (pc' := 26) rfl ?_
    refine own_lret X5 hret own_d2_26 (by decide) (by decide) ?_
    exact ⟨congrArg (fun t => some (Value.long t)) (show (1 : Int64) = own_F2 q1 q2 q3 from (by rw [own_F2, if_neg hc8])), rfl⟩
theorem own_pd1 : parseMethodDescriptor "([J[J[J)J" = some ⟨[(.array .long), (.array .long), (.array .long)], some .long⟩ := by decide +kernel
theorem own_pd2 : parseMethodDescriptor "(JJJ)J" = some ⟨[.long, .long, .long], some .long⟩ := by decide +kernel
theorem own_ef0 (q1 : Int64) (q2 : Int64) (q3 : Int64) (q4 : Int64) (q5 : Int64) (q6 : Int64) (m : MethodId) : entryFrame m #[(.long q1), (.long q2), (.long q3), (.long q4), (.long q5), (.long q6)] maxLocals = mkF m 0 #[.val (.long q1), .second, .val (.long q2), .second, .val (.long q3), .second, .val (.long q4), .second, .val (.long q5), .second, .val (.long q6), .second, .unset, .unset, .unset, .unset, .unset, .unset, .unset, .unset, .unset, .unset, .unset, .unset, .unset, .unset, .unset, .unset, .unset, .unset, .unset, .unset, .unset, .unset, .unset, .unset, .unset, .unset, .unset, .unset, .unset, .unset, .unset, .unset, .unset, .unset, .unset, .unset, .unset, .unset, .unset] [] := by first | (simp [entryFrame, mkF, argsToLocals, Value.category, maxLocals]; done) | rfl
theorem own_pf0 : plainFor x = true := by first | exact plainFor_of_name (by first | (simp [plainName, overriddenIn]; done) | decide +kernel) | decide +kernel
def own_v0_48 (q1 : Int64) : Int64 := (q1 &&& (4294967295 : Int64))
def own_v0_56 (q1 : Int64) : Int64 := ((q1.toUInt64 >>> (32 : UInt64)).toInt64)
def own_v0_65 (q2 : Int64) : Int64 := (q2 &&& (4294967295 : Int64))
def own_v0_73 (q2 : Int64) : Int64 := ((q2.toUInt64 >>> (32 : UInt64)).toInt64)
def own_v0_82 (q3 : Int64) : Int64 := (q3 &&& (4294967295 : Int64))
def own_v0_90 (q3 : Int64) : Int64 := ((q3.toUInt64 >>> (32 : UInt64)).toInt64)
def own_v0_100 (q4 : Int64) : Int64 := (q4 &&& (4294967295 : Int64))
def own_v0_109 (q4 : Int64) : Int64 := ((q4.toUInt64 >>> (32 : UInt64)).toInt64)
def own_v0_124 (q5 : Int64) : Int64 := (q5 &&& (4294967295 : Int64))
def own_v0_132 (q5 : Int64) : Int64 := ((q5.toUInt64 >>> (32 : UInt64)).toInt64)
def own_v0_141 (q6 : Int64) : Int64 := (q6 &&& (4294967295 : Int64))
def own_v0_149 (q6 : Int64) : Int64 := ((q6.toUInt64 >>> (32 : UInt64)).toInt64)
def own_v0_158 (q3 : Int64) (q5 : Int64) : Int64 := ((q5 ^^^ q3) &&& (4294967295 : Int64))
def own_v0_166 (q3 : Int64) (q5 : Int64) : Int64 := (((q5 ^^^ q3).toUInt64 >>> (32 : UInt64)).toInt64)
def own_v0_176 (q4 : Int64) (q6 : Int64) : Int64 := ((q6 ^^^ q4) &&& (4294967295 : Int64))
def own_v0_185 (q4 : Int64) (q6 : Int64) : Int64 := (((q6 ^^^ q4).toUInt64 >>> (32 : UInt64)).toInt64)
def own_v0_196 (q1 : Int64) (q5 : Int64) : Int64 := ((q1 ^^^ q5) ^^^ (81985529216486895 : Int64))
def own_v0_209 (q1 : Int64) (q5 : Int64) : Int64 := (((own_v0_196 q1 q5).toUInt64 >>> (32 : UInt64)).toInt64)
def own_v0_218 (q1 : Int64) (q5 : Int64) : Int64 := ((own_v0_196 q1 q5) &&& (4294967295 : Int64))
def own_v0_248 (q1 : Int64) (q5 : Int64) : Int64 := (((own_v0_196 q1 q5) ^^^ (-1 : Int64)) &&& (4294967295 : Int64))
def own_v0_260 (q1 : Int64) (q5 : Int64) : Int64 := ((((own_v0_196 q1 q5) ^^^ (-1 : Int64)).toUInt64 >>> (32 : UInt64)).toInt64)
def own_v0_288 (q1 : Int64) (q2 : Int64) (q3 : Int64) (q4 : Int64) (q5 : Int64) (q6 : Int64) : Int64 := (own_F1 (own_v0_209 q1 q5) (own_v0_218 q1 q5) (own_v0_218 q1 q5) (own_v0_209 q1 q5) (own_v0_248 q1 q5) (own_v0_260 q1 q5) (own_v0_209 q1 q5) (own_v0_218 q1 q5) (own_v0_48 q1) (own_v0_56 q1) (own_v0_65 q2) (own_v0_73 q2) (own_v0_82 q3) (own_v0_90 q3) (own_v0_100 q4) (own_v0_109 q4) (own_v0_124 q5) (own_v0_132 q5) (own_v0_141 q6) (own_v0_149 q6) (own_v0_158 q3 q5) (own_v0_166 q3 q5) (own_v0_176 q4 q6) (own_v0_185 q4 q6))
def own_v0_308 (q1 : Int64) (q5 : Int64) : Int64 := (own_F2 (q1 + q5) q1 (0 : Int64))
def own_v0_318 (q1 : Int64) (q2 : Int64) (q5 : Int64) (q6 : Int64) : Int64 := ((q2 + q6) + (own_v0_308 q1 q5))
def own_v0_329 (q1 : Int64) (q2 : Int64) (q5 : Int64) (q6 : Int64) : Int64 := (own_F2 (own_v0_318 q1 q2 q5 q6) q2 (own_v0_308 q1 q5))
def own_v0_339 (q1 : Int64) (q2 : Int64) (q3 : Int64) (q5 : Int64) (q6 : Int64) : Int64 := ((q3 + (q5 ^^^ q3)) + (own_v0_329 q1 q2 q5 q6))
def own_v0_350 (q1 : Int64) (q2 : Int64) (q3 : Int64) (q5 : Int64) (q6 : Int64) : Int64 := (own_F2 (own_v0_339 q1 q2 q3 q5 q6) q3 (own_v0_329 q1 q2 q5 q6))
def own_v0_360 (q1 : Int64) (q2 : Int64) (q3 : Int64) (q4 : Int64) (q5 : Int64) (q6 : Int64) : Int64 := ((q4 + (q6 ^^^ q4)) + (own_v0_350 q1 q2 q3 q5 q6))
def own_v0_371 (q1 : Int64) (q2 : Int64) (q3 : Int64) (q4 : Int64) (q5 : Int64) (q6 : Int64) : Int64 := (own_F2 (own_v0_360 q1 q2 q3 q4 q5 q6) q4 (own_v0_350 q1 q2 q3 q5 q6))
def own_F0 (q1 : Int64) (q2 : Int64) (q3 : Int64) (q4 : Int64) (q5 : Int64) (q6 : Int64) : Int32 := (if (own_v1_15 (own_v0_48 q1) (own_v0_124 q5)) = ((q1 + q5) &&& (4294967295 : Int64)) then (if (own_v1_36 (own_v0_48 q1) (own_v0_56 q1) (own_v0_124 q5) (own_v0_132 q5)) = (((q1 + q5).toUInt64 >>> (32 : UInt64)).toInt64) then (if (own_v1_57 (own_v0_48 q1) (own_v0_56 q1) (own_v0_65 q2) (own_v0_124 q5) (own_v0_132 q5) (own_v0_141 q6)) = ((own_v0_318 q1 q2 q5 q6) &&& (4294967295 : Int64)) then (if (own_v1_78 (own_v0_48 q1) (own_v0_56 q1) (own_v0_65 q2) (own_v0_73 q2) (own_v0_124 q5) (own_v0_132 q5) (own_v0_141 q6) (own_v0_149 q6)) = (((own_v0_318 q1 q2 q5 q6).toUInt64 >>> (32 : UInt64)).toInt64) then (if (own_v1_99 (own_v0_48 q1) (own_v0_56 q1) (own_v0_65 q2) (own_v0_73 q2) (own_v0_82 q3) (own_v0_124 q5) (own_v0_132 q5) (own_v0_141 q6) (own_v0_149 q6) (own_v0_158 q3 q5)) = ((own_v0_339 q1 q2 q3 q5 q6) &&& (4294967295 : Int64)) then (if (own_v1_120 (own_v0_48 q1) (own_v0_56 q1) (own_v0_65 q2) (own_v0_73 q2) (own_v0_82 q3) (own_v0_90 q3) (own_v0_124 q5) (own_v0_132 q5) (own_v0_141 q6) (own_v0_149 q6) (own_v0_158 q3 q5) (own_v0_166 q3 q5)) = (((own_v0_339 q1 q2 q3 q5 q6).toUInt64 >>> (32 : UInt64)).toInt64) then (if (own_v1_144 (own_v0_48 q1) (own_v0_56 q1) (own_v0_65 q2) (own_v0_73 q2) (own_v0_82 q3) (own_v0_90 q3) (own_v0_100 q4) (own_v0_124 q5) (own_v0_132 q5) (own_v0_141 q6) (own_v0_149 q6) (own_v0_158 q3 q5) (own_v0_166 q3 q5) (own_v0_176 q4 q6)) = ((own_v0_360 q1 q2 q3 q4 q5 q6) &&& (4294967295 : Int64)) then (if (own_v1_168 (own_v0_48 q1) (own_v0_56 q1) (own_v0_65 q2) (own_v0_73 q2) (own_v0_82 q3) (own_v0_90 q3) (own_v0_100 q4) (own_v0_109 q4) (own_v0_124 q5) (own_v0_132 q5) (own_v0_141 q6) (own_v0_149 q6) (own_v0_158 q3 q5) (own_v0_166 q3 q5) (own_v0_176 q4 q6) (own_v0_185 q4 q6)) = (((own_v0_360 q1 q2 q3 q4 q5 q6).toUInt64 >>> (32 : UInt64)).toInt64) then (if (own_v0_288 q1 q2 q3 q4 q5 q6) = (own_v0_371 q1 q2 q3 q4 q5 q6) then (1 : Int32) else (0 : Int32)) else (0 : Int32)) else (0 : Int32)) else (0 : Int32)) else (0 : Int32)) else (0 : Int32)) else (0 : Int32)) else (0 : Int32)) else (0 : Int32))
set_option maxRecDepth 65536 in
set_option maxHeartbeats 40000000 in
theorem own_rm0 (l : Launch) (Z : State) (a0 : Array Value) (hw : ∀ d ∈ tables_1, d.before a0 Z = true) (q1 : Int64) (q2 : Int64) (q3 : Int64) (q4 : Int64) (q5 : Int64) (q6 : Int64) (h0 : Heap) (n0 : Nat) (Z0 : n0 ≤ h0.size) :
    own_Con l Z x code maxLocals ret room_1 #[(.long q1), (.long q2), (.long q3), (.long q4), (.long q5), (.long q6)] h0 n0 (fun v h => v = some (.int (own_F0 q1 q2 q3 q4 q5 q6))) := by
  refine own_enter own_pf0 Z0 (own_ef0 q1 q2 q3 q4 q5 q6) ?_
  intro p e s m below meth c T0 X0 hret hnm
  refine own_lloadN X0 at_0 (pc' := 1) rfl (v := q1) rfl ?_
  refine own_lstore X0 at_1 (pc' := 3) rfl (y := q1) rfl (Ls' := #[.val (.long q1), .second, .val (.long q2), .second, .val (.long q3), .second, .val (.long q4), .second, .val (.long q5), .second, .val (.long q6), .second, .val (.long q1), .second, .unset, .unset, .unset, .unset, .unset, .unset, .unset, .unset, .unset, .unset, .unset, .unset, .unset, .unset, .unset, .unset, .unset, .unset, .unset, .unset, .unset, .unset, .unset, .unset, .unset, .unset, .unset, .unset, .unset, .unset, .unset, .unset, .unset, .unset, .unset, .unset, .unset]) rfl ?_
  refine own_lloadN X0 at_3 (pc' := 4) rfl (v := q2) rfl ?_
  refine own_lstore X0 at_4 (pc' := 6) rfl (y := q2) rfl (Ls' := #[.val (.long q1), .second, .val (.long q2), .second, .val (.long q3), .second, .val (.long q4), .second, .val (.long q5), .second, .val (.long q6), .second, .val (.long q1), .second, .val (.long q2), .second, .unset, .unset, .unset, .unset, .unset, .unset, .unset, .unset, .unset, .unset, .unset, .unset, .unset, .unset, .unset, .unset, .unset, .unset, .unset, .unset, .unset, .unset, .unset, .unset, .unset, .unset, .unset, .unset, .unset, .unset, .unset, .unset, .unset, .unset, .unset]) rfl ?_
  refine own_lload X0 at_6 (pc' := 8) rfl (v := q3) rfl ?_
  refine own_lstore X0 at_8 (pc' := 10) rfl (y := q3) rfl (Ls' := #[.val (.long q1), .second, .val (.long q2), .second, .val (.long q3), .second, .val (.long q4), .second, .val (.long q5), .second, .val (.long q6), .second, .val (.long q1), .second, .val (.long q2), .second, .val (.long q3), .second, .unset, .unset, .unset, .unset, .unset, .unset, .unset, .unset, .unset, .unset, .unset, .unset, .unset, .unset, .unset, .unset, .unset, .unset, .unset, .unset, .unset, .unset, .unset, .unset, .unset, .unset, .unset, .unset, .unset, .unset, .unset, .unset, .unset]) rfl ?_
  refine own_lload X0 at_10 (pc' := 12) rfl (v := q4) rfl ?_
  refine own_lstore X0 at_12 (pc' := 14) rfl (y := q4) rfl (Ls' := #[.val (.long q1), .second, .val (.long q2), .second, .val (.long q3), .second, .val (.long q4), .second, .val (.long q5), .second, .val (.long q6), .second, .val (.long q1), .second, .val (.long q2), .second, .val (.long q3), .second, .val (.long q4), .second, .unset, .unset, .unset, .unset, .unset, .unset, .unset, .unset, .unset, .unset, .unset, .unset, .unset, .unset, .unset, .unset, .unset, .unset, .unset, .unset, .unset, .unset, .unset, .unset, .unset, .unset, .unset, .unset, .unset, .unset, .unset]) rfl ?_
  refine own_lload X0 at_14 (pc' := 16) rfl (v := q5) rfl ?_
  refine own_lstore X0 at_16 (pc' := 18) rfl (y := q5) rfl (Ls' := #[.val (.long q1), .second, .val (.long q2), .second, .val (.long q3), .second, .val (.long q4), .second, .val (.long q5), .second, .val (.long q6), .second, .val (.long q1), .second, .val (.long q2), .second, .val (.long q3), .second, .val (.long q4), .second, .val (.long q5), .second, .unset, .unset, .unset, .unset, .unset, .unset, .unset, .unset, .unset, .unset, .unset, .unset, .unset, .unset, .unset, .unset, .unset, .unset, .unset, .unset, .unset, .unset, .unset, .unset, .unset, .unset, .unset, .unset, .unset]) rfl ?_
  refine own_lload X0 at_18 (pc' := 20) rfl (v := q6) rfl ?_
  refine own_lstore X0 at_20 (pc' := 22) rfl (y := q6) rfl (Ls' := #[.val (.long q1), .second, .val (.long q2), .second, .val (.long q3), .second, .val (.long q4), .second, .val (.long q5), .second, .val (.long q6), .second, .val (.long q1), .second, .val (.long q2), .second, .val (.long q3), .second, .val (.long q4), .second, .val (.long q5), .second, .val (.long q6), .second, .unset, .unset, .unset, .unset, .unset, .unset, .unset, .unset, .unset, .unset, .unset, .unset, .unset, .unset, .unset, .unset, .unset, .unset, .unset, .unset, .unset, .unset, .unset, .unset, .unset, .unset, .unset]) rfl ?_
  refine own_lload X0 at_22 (pc' := 24) rfl (v := q5) rfl ?_
  refine own_lload X0 at_24 (pc' := 26) rfl (v := q3) rfl ?_
  refine own_lxor X0 at_26 (pc' := 27) rfl (z := (q5 ^^^ q3)) rfl ?_
  refine own_lstore X0 at_27 (pc' := 29) rfl (y := (q5 ^^^ q3)) rfl (Ls' := #[.val (.long q1), .second, .val (.long q2), .second, .val (.long q3), .second, .val (.long q4), .second, .val (.long q5), .second, .val (.long q6), .second, .val (.long q1), .second, .val (.long q2), .second, .val (.long q3), .second, .val (.long q4), .second, .val (.long q5), .second, .val (.long q6), .second, .val (.long (q5 ^^^ q3)), .second, .unset, .unset, .unset, .unset, .unset, .unset, .unset, .unset, .unset, .unset, .unset, .unset, .unset, .unset, .unset, .unset, .unset, .unset, .unset, .unset, .unset, .unset, .unset, .unset, .unset]) rfl ?_
  refine own_lload X0 at_29 (pc' := 31) rfl (v := q6) rfl ?_
  refine own_lload X0 at_31 (pc' := 33) rfl (v := q4) rfl ?_
  refine own_lxor X0 at_33 (pc' := 34) rfl (z := (q6 ^^^ q4)) rfl ?_
  refine own_lstore X0 at_34 (pc' := 36) rfl (y := (q6 ^^^ q4)) rfl (Ls' := #[.val (.long q1), .second, .val (.long q2), .second, .val (.long q3), .second, .val (.long q4), .second, .val (.long q5), .second, .val (.long q6), .second, .val (.long q1), .second, .val (.long q2), .second, .val (.long q3), .second, .val (.long q4), .second, .val (.long q5), .second, .val (.long q6), .second, .val (.long (q5 ^^^ q3)), .second, .val (.long (q6 ^^^ q4)), .second, .unset, .unset, .unset, .unset, .unset, .unset, .unset, .unset, .unset, .unset, .unset, .unset, .unset, .unset, .unset, .unset, .unset, .unset, .unset, .unset, .unset, .unset, .unset]) rfl ?_
  refine own_bipush X0 at_36 (pc' := 38) rfl (z := (8 : Int32)) rfl ?_
  refine own_newW X0 (hw _ (List.mem_of_getElem? (i := 0) rfl)) (by decide) 8 (by decide) (by decide) (by decide) (by decide) at_38 (pc' := 40) rfl fun T2 h3 b1 X4 Ex5 hs6 g7 V8 => ?_
  replace V8 : own_W Z h3 b1 (8 : Int32) [(0 : Int64), (0 : Int64), (0 : Int64), (0 : Int64), (0 : Int64), (0 : Int64), (0 : Int64), (0 : Int64)] := V8
  refine own_dup X4 at_40 (pc' := 41) rfl rfl ?_
  refine own_iconst X4 at_41 (pc' := 42) rfl (z := (0 : Int32)) rfl ?_
  refine own_lload X4 at_42 (pc' := 44) rfl (v := q1) rfl ?_
  refine own_ldc2 X4 (hw _ (List.mem_of_getElem? (i := 1) rfl)) at_44 (pc' := 47) rfl ?_
  refine own_land X4 at_47 (pc' := 48) rfl (z := (q1 &&& (4294967295 : Int64))) rfl ?_
  refine own_lastore X4 V8 g7 (x := (own_v0_48 q1)) rfl 0 rfl (by decide) (by decide) at_48 (pc' := 49) rfl fun T9 h10 lc12 X11 W13 V14 => ?_
  replace V14 : own_W Z h10 b1 (8 : Int32) [(own_v0_48 q1), (0 : Int64), (0 : Int64), (0 : Int64), (0 : Int64), (0 : Int64), (0 : Int64), (0 : Int64)] := V14
  refine own_dup X11 at_49 (pc' := 50) rfl rfl ?_
  refine own_iconst X11 at_50 (pc' := 51) rfl (z := (1 : Int32)) rfl ?_
  refine own_lload X11 at_51 (pc' := 53) rfl (v := q1) rfl ?_
  refine own_bipush X11 at_53 (pc' := 55) rfl (z := (32 : Int32)) rfl ?_
  refine own_lushr X11 at_55 (pc' := 56) rfl (z := ((q1.toUInt64 >>> (32 : UInt64)).toInt64)) rfl ?_
  refine own_lastore X11 V14 g7 (x := (own_v0_56 q1)) rfl 1 rfl (by decide) (by decide) at_56 (pc' := 57) rfl fun T15 h16 lc18 X17 W19 V20 => ?_
  replace V20 : own_W Z h16 b1 (8 : Int32) [(own_v0_48 q1), (own_v0_56 q1), (0 : Int64), (0 : Int64), (0 : Int64), (0 : Int64), (0 : Int64), (0 : Int64)] := V20
  refine own_dup X17 at_57 (pc' := 58) rfl rfl ?_
  refine own_iconst X17 at_58 (pc' := 59) rfl (z := (2 : Int32)) rfl ?_
  refine own_lload X17 at_59 (pc' := 61) rfl (v := q2) rfl ?_
  refine own_ldc2 X17 (hw _ (List.mem_of_getElem? (i := 1) rfl)) at_61 (pc' := 64) rfl ?_
  refine own_land X17 at_64 (pc' := 65) rfl (z := (q2 &&& (4294967295 : Int64))) rfl ?_
  refine own_lastore X17 V20 g7 (x := (own_v0_65 q2)) rfl 2 rfl (by decide) (by decide) at_65 (pc' := 66) rfl fun T21 h22 lc24 X23 W25 V26 => ?_
  replace V26 : own_W Z h22 b1 (8 : Int32) [(own_v0_48 q1), (own_v0_56 q1), (own_v0_65 q2), (0 : Int64), (0 : Int64), (0 : Int64), (0 : Int64), (0 : Int64)] := V26
  refine own_dup X23 at_66 (pc' := 67) rfl rfl ?_
  refine own_iconst X23 at_67 (pc' := 68) rfl (z := (3 : Int32)) rfl ?_
  refine own_lload X23 at_68 (pc' := 70) rfl (v := q2) rfl ?_
  refine own_bipush X23 at_70 (pc' := 72) rfl (z := (32 : Int32)) rfl ?_
  refine own_lushr X23 at_72 (pc' := 73) rfl (z := ((q2.toUInt64 >>> (32 : UInt64)).toInt64)) rfl ?_
  refine own_lastore X23 V26 g7 (x := (own_v0_73 q2)) rfl 3 rfl (by decide) (by decide) at_73 (pc' := 74) rfl fun T27 h28 lc30 X29 W31 V32 => ?_
  replace V32 : own_W Z h28 b1 (8 : Int32) [(own_v0_48 q1), (own_v0_56 q1), (own_v0_65 q2), (own_v0_73 q2), (0 : Int64), (0 : Int64), (0 : Int64), (0 : Int64)] := V32
  refine own_dup X29 at_74 (pc' := 75) rfl rfl ?_
  refine own_iconst X29 at_75 (pc' := 76) rfl (z := (4 : Int32)) rfl ?_
  refine own_lload X29 at_76 (pc' := 78) rfl (v := q3) rfl ?_
  refine own_ldc2 X29 (hw _ (List.mem_of_getElem? (i := 1) rfl)) at_78 (pc' := 81) rfl ?_
  refine own_land X29 at_81 (pc' := 82) rfl (z := (q3 &&& (4294967295 : Int64))) rfl ?_
  refine own_lastore X29 V32 g7 (x := (own_v0_82 q3)) rfl 4 rfl (by decide) (by decide) at_82 (pc' := 83) rfl fun T33 h34 lc36 X35 W37 V38 => ?_
  replace V38 : own_W Z h34 b1 (8 : Int32) [(own_v0_48 q1), (own_v0_56 q1), (own_v0_65 q2), (own_v0_73 q2), (own_v0_82 q3), (0 : Int64), (0 : Int64), (0 : Int64)] := V38
  refine own_dup X35 at_83 (pc' := 84) rfl rfl ?_
  refine own_iconst X35 at_84 (pc' := 85) rfl (z := (5 : Int32)) rfl ?_
  refine own_lload X35 at_85 (pc' := 87) rfl (v := q3) rfl ?_
  refine own_bipush X35 at_87 (pc' := 89) rfl (z := (32 : Int32)) rfl ?_
  refine own_lushr X35 at_89 (pc' := 90) rfl (z := ((q3.toUInt64 >>> (32 : UInt64)).toInt64)) rfl ?_
  refine own_lastore X35 V38 g7 (x := (own_v0_90 q3)) rfl 5 rfl (by decide) (by decide) at_90 (pc' := 91) rfl fun T39 h40 lc42 X41 W43 V44 => ?_
  replace V44 : own_W Z h40 b1 (8 : Int32) [(own_v0_48 q1), (own_v0_56 q1), (own_v0_65 q2), (own_v0_73 q2), (own_v0_82 q3), (own_v0_90 q3), (0 : Int64), (0 : Int64)] := V44
  refine own_dup X41 at_91 (pc' := 92) rfl rfl ?_
  refine own_bipush X41 at_92 (pc' := 94) rfl (z := (6 : Int32)) rfl ?_
  refine own_lload X41 at_94 (pc' := 96) rfl (v := q4) rfl ?_
  refine own_ldc2 X41 (hw _ (List.mem_of_getElem? (i := 1) rfl)) at_96 (pc' := 99) rfl ?_
  refine own_land X41 at_99 (pc' := 100) rfl (z := (q4 &&& (4294967295 : Int64))) rfl ?_
  refine own_lastore X41 V44 g7 (x := (own_v0_100 q4)) rfl 6 rfl (by decide) (by decide) at_100 (pc' := 101) rfl fun T45 h46 lc48 X47 W49 V50 => ?_
  replace V50 : own_W Z h46 b1 (8 : Int32) [(own_v0_48 q1), (own_v0_56 q1), (own_v0_65 q2), (own_v0_73 q2), (own_v0_82 q3), (own_v0_90 q3), (own_v0_100 q4), (0 : Int64)] := V50
  refine own_dup X47 at_101 (pc' := 102) rfl rfl ?_
  refine own_bipush X47 at_102 (pc' := 104) rfl (z := (7 : Int32)) rfl ?_
  refine own_lload X47 at_104 (pc' := 106) rfl (v := q4) rfl ?_
  refine own_bipush X47 at_106 (pc' := 108) rfl (z := (32 : Int32)) rfl ?_
  refine own_lushr X47 at_108 (pc' := 109) rfl (z := ((q4.toUInt64 >>> (32 : UInt64)).toInt64)) rfl ?_
  refine own_lastore X47 V50 g7 (x := (own_v0_109 q4)) rfl 7 rfl (by decide) (by decide) at_109 (pc' := 110) rfl fun T51 h52 lc54 X53 W55 V56 => ?_
  replace V56 : own_W Z h52 b1 (8 : Int32) [(own_v0_48 q1), (own_v0_56 q1), (own_v0_65 q2), (own_v0_73 q2), (own_v0_82 q3), (own_v0_90 q3), (own_v0_100 q4), (own_v0_109 q4)] := V56
  refine own_astore X53 at_110 (pc' := 112) rfl rfl (Ls' := #[.val (.long q1), .second, .val (.long q2), .second, .val (.long q3), .second, .val (.long q4), .second, .val (.long q5), .second, .val (.long q6), .second, .val (.long q1), .second, .val (.long q2), .second, .val (.long q3), .second, .val (.long q4), .second, .val (.long q5), .second, .val (.long q6), .second, .val (.long (q5 ^^^ q3)), .second, .val (.long (q6 ^^^ q4)), .second, .val (.ref b1), .unset, .unset, .unset, .unset, .unset, .unset, .unset, .unset, .unset, .unset, .unset, .unset, .unset, .unset, .unset, .unset, .unset, .unset, .unset, .unset, .unset, .unset]) rfl ?_
  refine own_bipush X53 at_112 (pc' := 114) rfl (z := (8 : Int32)) rfl ?_
  refine own_newW X53 (hw _ (List.mem_of_getElem? (i := 0) rfl)) (by decide) 8 (by decide) (by decide) (by decide) (by decide) at_114 (pc' := 116) rfl fun T58 h59 b57 X60 Ex61 hs62 g63 V64 => ?_
  have ne65 : b1 ≠ b57 := Nat.ne_of_lt (Nat.lt_of_lt_of_eq V56.lt hs62)
  have V66 := V56.ext Ex61
  replace V64 : own_W Z h59 b57 (8 : Int32) [(0 : Int64), (0 : Int64), (0 : Int64), (0 : Int64), (0 : Int64), (0 : Int64), (0 : Int64), (0 : Int64)] := V64
  refine own_dup X60 at_116 (pc' := 117) rfl rfl ?_
  refine own_iconst X60 at_117 (pc' := 118) rfl (z := (0 : Int32)) rfl ?_
  refine own_lload X60 at_118 (pc' := 120) rfl (v := q5) rfl ?_
  refine own_ldc2 X60 (hw _ (List.mem_of_getElem? (i := 1) rfl)) at_120 (pc' := 123) rfl ?_
  refine own_land X60 at_123 (pc' := 124) rfl (z := (q5 &&& (4294967295 : Int64))) rfl ?_
  refine own_lastore X60 V64 g63 (x := (own_v0_124 q5)) rfl 0 rfl (by decide) (by decide) at_124 (pc' := 125) rfl fun T67 h68 lc70 X69 W71 V72 => ?_
  replace V72 : own_W Z h68 b57 (8 : Int32) [(own_v0_124 q5), (0 : Int64), (0 : Int64), (0 : Int64), (0 : Int64), (0 : Int64), (0 : Int64), (0 : Int64)] := V72
  have V73 := V66.other W71 ne65
  refine own_dup X69 at_125 (pc' := 126) rfl rfl ?_
  refine own_iconst X69 at_126 (pc' := 127) rfl (z := (1 : Int32)) rfl ?_
  refine own_lload X69 at_127 (pc' := 129) rfl (v := q5) rfl ?_
  refine own_bipush X69 at_129 (pc' := 131) rfl (z := (32 : Int32)) rfl ?_
  refine own_lushr X69 at_131 (pc' := 132) rfl (z := ((q5.toUInt64 >>> (32 : UInt64)).toInt64)) rfl ?_
  refine own_lastore X69 V72 g63 (x := (own_v0_132 q5)) rfl 1 rfl (by decide) (by decide) at_132 (pc' := 133) rfl fun T74 h75 lc77 X76 W78 V79 => ?_
  replace V79 : own_W Z h75 b57 (8 : Int32) [(own_v0_124 q5), (own_v0_132 q5), (0 : Int64), (0 : Int64), (0 : Int64), (0 : Int64), (0 : Int64), (0 : Int64)] := V79
  have V80 := V73.other W78 ne65
  refine own_dup X76 at_133 (pc' := 134) rfl rfl ?_
  refine own_iconst X76 at_134 (pc' := 135) rfl (z := (2 : Int32)) rfl ?_
  refine own_lload X76 at_135 (pc' := 137) rfl (v := q6) rfl ?_
  refine own_ldc2 X76 (hw _ (List.mem_of_getElem? (i := 1) rfl)) at_137 (pc' := 140) rfl ?_
  refine own_land X76 at_140 (pc' := 141) rfl (z := (q6 &&& (4294967295 : Int64))) rfl ?_
  refine own_lastore X76 V79 g63 (x := (own_v0_141 q6)) rfl 2 rfl (by decide) (by decide) at_141 (pc' := 142) rfl fun T81 h82 lc84 X83 W85 V86 => ?_
  replace V86 : own_W Z h82 b57 (8 : Int32) [(own_v0_124 q5), (own_v0_132 q5), (own_v0_141 q6), (0 : Int64), (0 : Int64), (0 : Int64), (0 : Int64), (0 : Int64)] := V86
  have V87 := V80.other W85 ne65
  refine own_dup X83 at_142 (pc' := 143) rfl rfl ?_
  refine own_iconst X83 at_143 (pc' := 144) rfl (z := (3 : Int32)) rfl ?_
  refine own_lload X83 at_144 (pc' := 146) rfl (v := q6) rfl ?_
  refine own_bipush X83 at_146 (pc' := 148) rfl (z := (32 : Int32)) rfl ?_
  refine own_lushr X83 at_148 (pc' := 149) rfl (z := ((q6.toUInt64 >>> (32 : UInt64)).toInt64)) rfl ?_
  refine own_lastore X83 V86 g63 (x := (own_v0_149 q6)) rfl 3 rfl (by decide) (by decide) at_149 (pc' := 150) rfl fun T88 h89 lc91 X90 W92 V93 => ?_
  replace V93 : own_W Z h89 b57 (8 : Int32) [(own_v0_124 q5), (own_v0_132 q5), (own_v0_141 q6), (own_v0_149 q6), (0 : Int64), (0 : Int64), (0 : Int64), (0 : Int64)] := V93
  have V94 := V87.other W92 ne65
  refine own_dup X90 at_150 (pc' := 151) rfl rfl ?_
  refine own_iconst X90 at_151 (pc' := 152) rfl (z := (4 : Int32)) rfl ?_
  refine own_lload X90 at_152 (pc' := 154) rfl (v := (q5 ^^^ q3)) rfl ?_
  refine own_ldc2 X90 (hw _ (List.mem_of_getElem? (i := 1) rfl)) at_154 (pc' := 157) rfl ?_
  refine own_land X90 at_157 (pc' := 158) rfl (z := ((q5 ^^^ q3) &&& (4294967295 : Int64))) rfl ?_
  refine own_lastore X90 V93 g63 (x := (own_v0_158 q3 q5)) rfl 4 rfl (by decide) (by decide) at_158 (pc' := 159) rfl fun T95 h96 lc98 X97 W99 V100 => ?_
  replace V100 : own_W Z h96 b57 (8 : Int32) [(own_v0_124 q5), (own_v0_132 q5), (own_v0_141 q6), (own_v0_149 q6), (own_v0_158 q3 q5), (0 : Int64), (0 : Int64), (0 : Int64)] := V100
  have V101 := V94.other W99 ne65
  refine own_dup X97 at_159 (pc' := 160) rfl rfl ?_
  refine own_iconst X97 at_160 (pc' := 161) rfl (z := (5 : Int32)) rfl ?_
  refine own_lload X97 at_161 (pc' := 163) rfl (v := (q5 ^^^ q3)) rfl ?_
  refine own_bipush X97 at_163 (pc' := 165) rfl (z := (32 : Int32)) rfl ?_
  refine own_lushr X97 at_165 (pc' := 166) rfl (z := (((q5 ^^^ q3).toUInt64 >>> (32 : UInt64)).toInt64)) rfl ?_
  refine own_lastore X97 V100 g63 (x := (own_v0_166 q3 q5)) rfl 5 rfl (by decide) (by decide) at_166 (pc' := 167) rfl fun T102 h103 lc105 X104 W106 V107 => ?_
  replace V107 : own_W Z h103 b57 (8 : Int32) [(own_v0_124 q5), (own_v0_132 q5), (own_v0_141 q6), (own_v0_149 q6), (own_v0_158 q3 q5), (own_v0_166 q3 q5), (0 : Int64), (0 : Int64)] := V107
  have V108 := V101.other W106 ne65
  refine own_dup X104 at_167 (pc' := 168) rfl rfl ?_
  refine own_bipush X104 at_168 (pc' := 170) rfl (z := (6 : Int32)) rfl ?_
  refine own_lload X104 at_170 (pc' := 172) rfl (v := (q6 ^^^ q4)) rfl ?_
  refine own_ldc2 X104 (hw _ (List.mem_of_getElem? (i := 1) rfl)) at_172 (pc' := 175) rfl ?_
  refine own_land X104 at_175 (pc' := 176) rfl (z := ((q6 ^^^ q4) &&& (4294967295 : Int64))) rfl ?_
  refine own_lastore X104 V107 g63 (x := (own_v0_176 q4 q6)) rfl 6 rfl (by decide) (by decide) at_176 (pc' := 177) rfl fun T109 h110 lc112 X111 W113 V114 => ?_
  replace V114 : own_W Z h110 b57 (8 : Int32) [(own_v0_124 q5), (own_v0_132 q5), (own_v0_141 q6), (own_v0_149 q6), (own_v0_158 q3 q5), (own_v0_166 q3 q5), (own_v0_176 q4 q6), (0 : Int64)] := V114
  have V115 := V108.other W113 ne65
  refine own_dup X111 at_177 (pc' := 178) rfl rfl ?_
  refine own_bipush X111 at_178 (pc' := 180) rfl (z := (7 : Int32)) rfl ?_
  refine own_lload X111 at_180 (pc' := 182) rfl (v := (q6 ^^^ q4)) rfl ?_
  refine own_bipush X111 at_182 (pc' := 184) rfl (z := (32 : Int32)) rfl ?_
  refine own_lushr X111 at_184 (pc' := 185) rfl (z := (((q6 ^^^ q4).toUInt64 >>> (32 : UInt64)).toInt64)) rfl ?_
  refine own_lastore X111 V114 g63 (x := (own_v0_185 q4 q6)) rfl 7 rfl (by decide) (by decide) at_185 (pc' := 186) rfl fun T116 h117 lc119 X118 W120 V121 => ?_
  replace V121 : own_W Z h117 b57 (8 : Int32) [(own_v0_124 q5), (own_v0_132 q5), (own_v0_141 q6), (own_v0_149 q6), (own_v0_158 q3 q5), (own_v0_166 q3 q5), (own_v0_176 q4 q6), (own_v0_185 q4 q6)] := V121
  have V122 := V115.other W120 ne65
  refine own_astore X118 at_186 (pc' := 188) rfl rfl (Ls' := #[.val (.long q1), .second, .val (.long q2), .second, .val (.long q3), .second, .val (.long q4), .second, .val (.long q5), .second, .val (.long q6), .second, .val (.long q1), .second, .val (.long q2), .second, .val (.long q3), .second, .val (.long q4), .second, .val (.long q5), .second, .val (.long q6), .second, .val (.long (q5 ^^^ q3)), .second, .val (.long (q6 ^^^ q4)), .second, .val (.ref b1), .val (.ref b57), .unset, .unset, .unset, .unset, .unset, .unset, .unset, .unset, .unset, .unset, .unset, .unset, .unset, .unset, .unset, .unset, .unset, .unset, .unset, .unset, .unset]) rfl ?_
  refine own_lloadN X118 at_188 (pc' := 189) rfl (v := q1) rfl ?_
  refine own_lload X118 at_189 (pc' := 191) rfl (v := q5) rfl ?_
  refine own_lxor X118 at_191 (pc' := 192) rfl (z := (q1 ^^^ q5)) rfl ?_
  refine own_ldc2 X118 (hw _ (List.mem_of_getElem? (i := 2) rfl)) at_192 (pc' := 195) rfl ?_
  refine own_lxor X118 at_195 (pc' := 196) rfl (z := ((q1 ^^^ q5) ^^^ (81985529216486895 : Int64))) rfl ?_
  refine own_lstore X118 at_196 (pc' := 198) rfl (y := (own_v0_196 q1 q5)) rfl (Ls' := #[.val (.long q1), .second, .val (.long q2), .second, .val (.long q3), .second, .val (.long q4), .second, .val (.long q5), .second, .val (.long q6), .second, .val (.long q1), .second, .val (.long q2), .second, .val (.long q3), .second, .val (.long q4), .second, .val (.long q5), .second, .val (.long q6), .second, .val (.long (q5 ^^^ q3)), .second, .val (.long (q6 ^^^ q4)), .second, .val (.ref b1), .val (.ref b57), .val (.long (own_v0_196 q1 q5)), .second, .unset, .unset, .unset, .unset, .unset, .unset, .unset, .unset, .unset, .unset, .unset, .unset, .unset, .unset, .unset, .unset, .unset, .unset, .unset]) rfl ?_
  refine own_bipush X118 at_198 (pc' := 200) rfl (z := (8 : Int32)) rfl ?_
  refine own_newW X118 (hw _ (List.mem_of_getElem? (i := 0) rfl)) (by decide) 8 (by decide) (by decide) (by decide) (by decide) at_200 (pc' := 202) rfl fun T124 h125 b123 X126 Ex127 hs128 g129 V130 => ?_
  have ne131 : b1 ≠ b123 := Nat.ne_of_lt (Nat.lt_of_lt_of_eq V122.lt hs128)
  have ne132 : b57 ≠ b123 := Nat.ne_of_lt (Nat.lt_of_lt_of_eq V121.lt hs128)
  have V133 := V122.ext Ex127
  have V134 := V121.ext Ex127
  replace V130 : own_W Z h125 b123 (8 : Int32) [(0 : Int64), (0 : Int64), (0 : Int64), (0 : Int64), (0 : Int64), (0 : Int64), (0 : Int64), (0 : Int64)] := V130
  refine own_dup X126 at_202 (pc' := 203) rfl rfl ?_
  refine own_iconst X126 at_203 (pc' := 204) rfl (z := (0 : Int32)) rfl ?_
  refine own_lload X126 at_204 (pc' := 206) rfl (v := (own_v0_196 q1 q5)) rfl ?_
  refine own_bipush X126 at_206 (pc' := 208) rfl (z := (32 : Int32)) rfl ?_
  refine own_lushr X126 at_208 (pc' := 209) rfl (z := (((own_v0_196 q1 q5).toUInt64 >>> (32 : UInt64)).toInt64)) rfl ?_
  refine own_lastore X126 V130 g129 (x := (own_v0_209 q1 q5)) rfl 0 rfl (by decide) (by decide) at_209 (pc' := 210) rfl fun T135 h136 lc138 X137 W139 V140 => ?_
  replace V140 : own_W Z h136 b123 (8 : Int32) [(own_v0_209 q1 q5), (0 : Int64), (0 : Int64), (0 : Int64), (0 : Int64), (0 : Int64), (0 : Int64), (0 : Int64)] := V140
  have V141 := V133.other W139 ne131
  have V142 := V134.other W139 ne132
  refine own_dup X137 at_210 (pc' := 211) rfl rfl ?_
  refine own_iconst X137 at_211 (pc' := 212) rfl (z := (1 : Int32)) rfl ?_
  refine own_lload X137 at_212 (pc' := 214) rfl (v := (own_v0_196 q1 q5)) rfl ?_
  refine own_ldc2 X137 (hw _ (List.mem_of_getElem? (i := 1) rfl)) at_214 (pc' := 217) rfl ?_
  refine own_land X137 at_217 (pc' := 218) rfl (z := ((own_v0_196 q1 q5) &&& (4294967295 : Int64))) rfl ?_
  refine own_lastore X137 V140 g129 (x := (own_v0_218 q1 q5)) rfl 1 rfl (by decide) (by decide) at_218 (pc' := 219) rfl fun T143 h144 lc146 X145 W147 V148 => ?_
  replace V148 : own_W Z h144 b123 (8 : Int32) [(own_v0_209 q1 q5), (own_v0_218 q1 q5), (0 : Int64), (0 : Int64), (0 : Int64), (0 : Int64), (0 : Int64), (0 : Int64)] := V148
  have V149 := V141.other W147 ne131
  have V150 := V142.other W147 ne132
  refine own_dup X145 at_219 (pc' := 220) rfl rfl ?_
  refine own_iconst X145 at_220 (pc' := 221) rfl (z := (2 : Int32)) rfl ?_
  refine own_lload X145 at_221 (pc' := 223) rfl (v := (own_v0_196 q1 q5)) rfl ?_
  refine own_ldc2 X145 (hw _ (List.mem_of_getElem? (i := 1) rfl)) at_223 (pc' := 226) rfl ?_
  refine own_land X145 at_226 (pc' := 227) rfl (z := ((own_v0_196 q1 q5) &&& (4294967295 : Int64))) rfl ?_
  refine own_lastore X145 V148 g129 (x := (own_v0_218 q1 q5)) rfl 2 rfl (by decide) (by decide) at_227 (pc' := 228) rfl fun T151 h152 lc154 X153 W155 V156 => ?_
  replace V156 : own_W Z h152 b123 (8 : Int32) [(own_v0_209 q1 q5), (own_v0_218 q1 q5), (own_v0_218 q1 q5), (0 : Int64), (0 : Int64), (0 : Int64), (0 : Int64), (0 : Int64)] := V156
  have V157 := V149.other W155 ne131
  have V158 := V150.other W155 ne132
  refine own_dup X153 at_228 (pc' := 229) rfl rfl ?_
  refine own_iconst X153 at_229 (pc' := 230) rfl (z := (3 : Int32)) rfl ?_
  refine own_lload X153 at_230 (pc' := 232) rfl (v := (own_v0_196 q1 q5)) rfl ?_
  refine own_bipush X153 at_232 (pc' := 234) rfl (z := (32 : Int32)) rfl ?_
  refine own_lushr X153 at_234 (pc' := 235) rfl (z := (((own_v0_196 q1 q5).toUInt64 >>> (32 : UInt64)).toInt64)) rfl ?_
  refine own_lastore X153 V156 g129 (x := (own_v0_209 q1 q5)) rfl 3 rfl (by decide) (by decide) at_235 (pc' := 236) rfl fun T159 h160 lc162 X161 W163 V164 => ?_
  replace V164 : own_W Z h160 b123 (8 : Int32) [(own_v0_209 q1 q5), (own_v0_218 q1 q5), (own_v0_218 q1 q5), (own_v0_209 q1 q5), (0 : Int64), (0 : Int64), (0 : Int64), (0 : Int64)] := V164
  have V165 := V157.other W163 ne131
  have V166 := V158.other W163 ne132
  refine own_dup X161 at_236 (pc' := 237) rfl rfl ?_
  refine own_iconst X161 at_237 (pc' := 238) rfl (z := (4 : Int32)) rfl ?_
  refine own_lload X161 at_238 (pc' := 240) rfl (v := (own_v0_196 q1 q5)) rfl ?_
  refine own_ldc2 X161 (hw _ (List.mem_of_getElem? (i := 3) rfl)) at_240 (pc' := 243) rfl ?_
  refine own_lxor X161 at_243 (pc' := 244) rfl (z := ((own_v0_196 q1 q5) ^^^ (-1 : Int64))) rfl ?_
  refine own_ldc2 X161 (hw _ (List.mem_of_getElem? (i := 1) rfl)) at_244 (pc' := 247) rfl ?_
  refine own_land X161 at_247 (pc' := 248) rfl (z := (((own_v0_196 q1 q5) ^^^ (-1 : Int64)) &&& (4294967295 : Int64))) rfl ?_
  refine own_lastore X161 V164 g129 (x := (own_v0_248 q1 q5)) rfl 4 rfl (by decide) (by decide) at_248 (pc' := 249) rfl fun T167 h168 lc170 X169 W171 V172 => ?_
  replace V172 : own_W Z h168 b123 (8 : Int32) [(own_v0_209 q1 q5), (own_v0_218 q1 q5), (own_v0_218 q1 q5), (own_v0_209 q1 q5), (own_v0_248 q1 q5), (0 : Int64), (0 : Int64), (0 : Int64)] := V172
  have V173 := V165.other W171 ne131
  have V174 := V166.other W171 ne132
  refine own_dup X169 at_249 (pc' := 250) rfl rfl ?_
  refine own_iconst X169 at_250 (pc' := 251) rfl (z := (5 : Int32)) rfl ?_
  refine own_lload X169 at_251 (pc' := 253) rfl (v := (own_v0_196 q1 q5)) rfl ?_
  refine own_ldc2 X169 (hw _ (List.mem_of_getElem? (i := 3) rfl)) at_253 (pc' := 256) rfl ?_
  refine own_lxor X169 at_256 (pc' := 257) rfl (z := ((own_v0_196 q1 q5) ^^^ (-1 : Int64))) rfl ?_
  refine own_bipush X169 at_257 (pc' := 259) rfl (z := (32 : Int32)) rfl ?_
  refine own_lushr X169 at_259 (pc' := 260) rfl (z := ((((own_v0_196 q1 q5) ^^^ (-1 : Int64)).toUInt64 >>> (32 : UInt64)).toInt64)) rfl ?_
  refine own_lastore X169 V172 g129 (x := (own_v0_260 q1 q5)) rfl 5 rfl (by decide) (by decide) at_260 (pc' := 261) rfl fun T175 h176 lc178 X177 W179 V180 => ?_
  replace V180 : own_W Z h176 b123 (8 : Int32) [(own_v0_209 q1 q5), (own_v0_218 q1 q5), (own_v0_218 q1 q5), (own_v0_209 q1 q5), (own_v0_248 q1 q5), (own_v0_260 q1 q5), (0 : Int64), (0 : Int64)] := V180
  have V181 := V173.other W179 ne131
  have V182 := V174.other W179 ne132
  refine own_dup X177 at_261 (pc' := 262) rfl rfl ?_
  refine own_bipush X177 at_262 (pc' := 264) rfl (z := (6 : Int32)) rfl ?_
  refine own_lload X177 at_264 (pc' := 266) rfl (v := (own_v0_196 q1 q5)) rfl ?_
  refine own_bipush X177 at_266 (pc' := 268) rfl (z := (32 : Int32)) rfl ?_
  refine own_lushr X177 at_268 (pc' := 269) rfl (z := (((own_v0_196 q1 q5).toUInt64 >>> (32 : UInt64)).toInt64)) rfl ?_
  refine own_lastore X177 V180 g129 (x := (own_v0_209 q1 q5)) rfl 6 rfl (by decide) (by decide) at_269 (pc' := 270) rfl fun T183 h184 lc186 X185 W187 V188 => ?_
  replace V188 : own_W Z h184 b123 (8 : Int32) [(own_v0_209 q1 q5), (own_v0_218 q1 q5), (own_v0_218 q1 q5), (own_v0_209 q1 q5), (own_v0_248 q1 q5), (own_v0_260 q1 q5), (own_v0_209 q1 q5), (0 : Int64)] := V188
  have V189 := V181.other W187 ne131
  have V190 := V182.other W187 ne132
  refine own_dup X185 at_270 (pc' := 271) rfl rfl ?_
  refine own_bipush X185 at_271 (pc' := 273) rfl (z := (7 : Int32)) rfl ?_
  refine own_lload X185 at_273 (pc' := 275) rfl (v := (own_v0_196 q1 q5)) rfl ?_
  refine own_ldc2 X185 (hw _ (List.mem_of_getElem? (i := 1) rfl)) at_275 (pc' := 278) rfl ?_
  refine own_land X185 at_278 (pc' := 279) rfl (z := ((own_v0_196 q1 q5) &&& (4294967295 : Int64))) rfl ?_
  refine own_lastore X185 V188 g129 (x := (own_v0_218 q1 q5)) rfl 7 rfl (by decide) (by decide) at_279 (pc' := 280) rfl fun T191 h192 lc194 X193 W195 V196 => ?_
  replace V196 : own_W Z h192 b123 (8 : Int32) [(own_v0_209 q1 q5), (own_v0_218 q1 q5), (own_v0_218 q1 q5), (own_v0_209 q1 q5), (own_v0_248 q1 q5), (own_v0_260 q1 q5), (own_v0_209 q1 q5), (own_v0_218 q1 q5)] := V196
  have V197 := V189.other W195 ne131
  have V198 := V190.other W195 ne132
  refine own_astore X193 at_280 (pc' := 282) rfl rfl (Ls' := #[.val (.long q1), .second, .val (.long q2), .second, .val (.long q3), .second, .val (.long q4), .second, .val (.long q5), .second, .val (.long q6), .second, .val (.long q1), .second, .val (.long q2), .second, .val (.long q3), .second, .val (.long q4), .second, .val (.long q5), .second, .val (.long q6), .second, .val (.long (q5 ^^^ q3)), .second, .val (.long (q6 ^^^ q4)), .second, .val (.ref b1), .val (.ref b57), .val (.long (own_v0_196 q1 q5)), .second, .val (.ref b123), .unset, .unset, .unset, .unset, .unset, .unset, .unset, .unset, .unset, .unset, .unset, .unset, .unset, .unset, .unset, .unset, .unset, .unset]) rfl ?_
  refine own_aload X193 at_282 (pc' := 284) rfl (v := (.ref b123)) rfl rfl ?_
  refine own_aload X193 at_284 (pc' := 286) rfl (v := (.ref b1)) rfl rfl ?_
  refine own_aload X193 at_286 (pc' := 288) rfl (v := (.ref b57)) rfl rfl ?_
  refine own_callS X193 (argsL := [(.ref b123), (.ref b1), (.ref b57)]) (S := []) (own_rm1 l Z a0 hw b123 (own_v0_209 q1 q5) (own_v0_218 q1 q5) (own_v0_218 q1 q5) (own_v0_209 q1 q5) (own_v0_248 q1 q5) (own_v0_260 q1 q5) (own_v0_209 q1 q5) (own_v0_218 q1 q5) b1 (own_v0_48 q1) (own_v0_56 q1) (own_v0_65 q2) (own_v0_73 q2) (own_v0_82 q3) (own_v0_90 q3) (own_v0_100 q4) (own_v0_109 q4) b57 (own_v0_124 q5) (own_v0_132 q5) (own_v0_141 q6) (own_v0_149 q6) (own_v0_158 q3 q5) (own_v0_166 q3 q5) (own_v0_176 q4 q6) (own_v0_185 q4 q6) h192 n0 X193.2.2.2.2.2.2.2.2.1 V196 V197 V198 ne131 ne132 g129) (hw _ (List.mem_of_getElem? (i := 4) rfl)) (hw _ (List.mem_of_getElem? (i := 5) rfl)) (hw _ (List.mem_of_getElem? (i := 6) rfl)) (hw _ (List.mem_of_getElem? (i := 7) rfl)) (by decide) (by decide) 0 (by decide) rfl own_pd1 rfl rfl (Nat.le_of_eq rfl) (by decide) (by decide) at_288 (pc' := 291) rfl fun T199 h200 lc201 r202 X203 Q204 => ?_
  obtain ⟨rfl, K205, V206⟩ := Q204
  have V207 := V197.keep K205 (ninS ne131 nin0)
  have V208 := V198.keep K205 (ninS ne132 nin0)
  show own_E p e below _ (T199.setTop (mkF m 291 #[.val (.long q1), .second, .val (.long q2), .second, .val (.long q3), .second, .val (.long q4), .second, .val (.long q5), .second, .val (.long q6), .second, .val (.long q1), .second, .val (.long q2), .second, .val (.long q3), .second, .val (.long q4), .second, .val (.long q5), .second, .val (.long q6), .second, .val (.long (q5 ^^^ q3)), .second, .val (.long (q6 ^^^ q4)), .second, .val (.ref b1), .val (.ref b57), .val (.long (own_v0_196 q1 q5)), .second, .val (.ref b123), .unset, .unset, .unset, .unset, .unset, .unset, .unset, .unset, .unset, .unset, .unset, .unset, .unset, .unset, .unset, .unset, .unset, .unset] [(.long (own_v0_288 q1 q2 q3 q4 q5 q6))]))
  refine own_lstore X203 at_291 (pc' := 293) rfl (y := (own_v0_288 q1 q2 q3 q4 q5 q6)) rfl (Ls' := #[.val (.long q1), .second, .val (.long q2), .second, .val (.long q3), .second, .val (.long q4), .second, .val (.long q5), .second, .val (.long q6), .second, .val (.long q1), .second, .val (.long q2), .second, .val (.long q3), .second, .val (.long q4), .second, .val (.long q5), .second, .val (.long q6), .second, .val (.long (q5 ^^^ q3)), .second, .val (.long (q6 ^^^ q4)), .second, .val (.ref b1), .val (.ref b57), .val (.long (own_v0_196 q1 q5)), .second, .val (.ref b123), .val (.long (own_v0_288 q1 q2 q3 q4 q5 q6)), .second, .unset, .unset, .unset, .unset, .unset, .unset, .unset, .unset, .unset, .unset, .unset, .unset, .unset, .unset, .unset, .unset]) rfl ?_
  refine own_lload X203 at_293 (pc' := 295) rfl (v := q1) rfl ?_
  refine own_lload X203 at_295 (pc' := 297) rfl (v := q5) rfl ?_
  refine own_ladd X203 at_297 (pc' := 298) rfl (z := (q1 + q5)) rfl ?_
  refine own_lstore X203 at_298 (pc' := 300) rfl (y := (q1 + q5)) rfl (Ls' := #[.val (.long q1), .second, .val (.long q2), .second, .val (.long q3), .second, .val (.long q4), .second, .val (.long q5), .second, .val (.long q6), .second, .val (.long q1), .second, .val (.long q2), .second, .val (.long q3), .second, .val (.long q4), .second, .val (.long q5), .second, .val (.long q6), .second, .val (.long (q5 ^^^ q3)), .second, .val (.long (q6 ^^^ q4)), .second, .val (.ref b1), .val (.ref b57), .val (.long (own_v0_196 q1 q5)), .second, .val (.ref b123), .val (.long (own_v0_288 q1 q2 q3 q4 q5 q6)), .second, .val (.long (q1 + q5)), .second, .unset, .unset, .unset, .unset, .unset, .unset, .unset, .unset, .unset, .unset, .unset, .unset, .unset, .unset]) rfl ?_
  refine own_lload X203 at_300 (pc' := 302) rfl (v := (q1 + q5)) rfl ?_
  refine own_lload X203 at_302 (pc' := 304) rfl (v := q1) rfl ?_
  refine own_lconst X203 at_304 (pc' := 305) rfl (z := (0 : Int64)) rfl ?_
  refine own_callS X203 (argsL := [(.long (q1 + q5)), (.long q1), (.long (0 : Int64))]) (S := []) (own_rm2 l Z a0 hw (q1 + q5) q1 (0 : Int64) h200 n0 X203.2.2.2.2.2.2.2.2.1 ) (hw _ (List.mem_of_getElem? (i := 9) rfl)) (hw _ (List.mem_of_getElem? (i := 10) rfl)) (hw _ (List.mem_of_getElem? (i := 11) rfl)) (hw _ (List.mem_of_getElem? (i := 12) rfl)) (by decide) (by decide) 0 (by decide) rfl own_pd2 rfl rfl (Nat.le_of_eq rfl) (by decide) (by decide) at_305 (pc' := 308) rfl fun T209 h210 lc211 r212 X213 Q214 => ?_
  obtain ⟨rfl, e215⟩ := Q214
  replace e215 := e215.symm
  subst e215
  show own_E p e below _ (T209.setTop (mkF m 308 #[.val (.long q1), .second, .val (.long q2), .second, .val (.long q3), .second, .val (.long q4), .second, .val (.long q5), .second, .val (.long q6), .second, .val (.long q1), .second, .val (.long q2), .second, .val (.long q3), .second, .val (.long q4), .second, .val (.long q5), .second, .val (.long q6), .second, .val (.long (q5 ^^^ q3)), .second, .val (.long (q6 ^^^ q4)), .second, .val (.ref b1), .val (.ref b57), .val (.long (own_v0_196 q1 q5)), .second, .val (.ref b123), .val (.long (own_v0_288 q1 q2 q3 q4 q5 q6)), .second, .val (.long (q1 + q5)), .second, .unset, .unset, .unset, .unset, .unset, .unset, .unset, .unset, .unset, .unset, .unset, .unset, .unset, .unset] [(.long (own_F2 (q1 + q5) q1 (0 : Int64)))]))
  refine own_lstore X213 at_308 (pc' := 310) rfl (y := (own_v0_308 q1 q5)) rfl (Ls' := #[.val (.long q1), .second, .val (.long q2), .second, .val (.long q3), .second, .val (.long q4), .second, .val (.long q5), .second, .val (.long q6), .second, .val (.long q1), .second, .val (.long q2), .second, .val (.long q3), .second, .val (.long q4), .second, .val (.long q5), .second, .val (.long q6), .second, .val (.long (q5 ^^^ q3)), .second, .val (.long (q6 ^^^ q4)), .second, .val (.ref b1), .val (.ref b57), .val (.long (own_v0_196 q1 q5)), .second, .val (.ref b123), .val (.long (own_v0_288 q1 q2 q3 q4 q5 q6)), .second, .val (.long (q1 + q5)), .second, .val (.long (own_v0_308 q1 q5)), .second, .unset, .unset, .unset, .unset, .unset, .unset, .unset, .unset, .unset, .unset, .unset, .unset]) rfl ?_
  refine own_lload X213 at_310 (pc' := 312) rfl (v := q2) rfl ?_
  refine own_lload X213 at_312 (pc' := 314) rfl (v := q6) rfl ?_
  refine own_ladd X213 at_314 (pc' := 315) rfl (z := (q2 + q6)) rfl ?_
  refine own_lload X213 at_315 (pc' := 317) rfl (v := (own_v0_308 q1 q5)) rfl ?_
  refine own_ladd X213 at_317 (pc' := 318) rfl (z := ((q2 + q6) + (own_v0_308 q1 q5))) rfl ?_
  refine own_lstore X213 at_318 (pc' := 320) rfl (y := (own_v0_318 q1 q2 q5 q6)) rfl (Ls' := #[.val (.long q1), .second, .val (.long q2), .second, .val (.long q3), .second, .val (.long q4), .second, .val (.long q5), .second, .val (.long q6), .second, .val (.long q1), .second, .val (.long q2), .second, .val (.long q3), .second, .val (.long q4), .second, .val (.long q5), .second, .val (.long q6), .second, .val (.long (q5 ^^^ q3)), .second, .val (.long (q6 ^^^ q4)), .second, .val (.ref b1), .val (.ref b57), .val (.long (own_v0_196 q1 q5)), .second, .val (.ref b123), .val (.long (own_v0_288 q1 q2 q3 q4 q5 q6)), .second, .val (.long (q1 + q5)), .second, .val (.long (own_v0_308 q1 q5)), .second, .val (.long (own_v0_318 q1 q2 q5 q6)), .second, .unset, .unset, .unset, .unset, .unset, .unset, .unset, .unset, .unset, .unset]) rfl ?_
  refine own_lload X213 at_320 (pc' := 322) rfl (v := (own_v0_318 q1 q2 q5 q6)) rfl ?_
  refine own_lload X213 at_322 (pc' := 324) rfl (v := q2) rfl ?_
  refine own_lload X213 at_324 (pc' := 326) rfl (v := (own_v0_308 q1 q5)) rfl ?_
  refine own_callS X213 (argsL := [(.long (own_v0_318 q1 q2 q5 q6)), (.long q2), (.long (own_v0_308 q1 q5))]) (S := []) (own_rm2 l Z a0 hw (own_v0_318 q1 q2 q5 q6) q2 (own_v0_308 q1 q5) h200 n0 X213.2.2.2.2.2.2.2.2.1 ) (hw _ (List.mem_of_getElem? (i := 9) rfl)) (hw _ (List.mem_of_getElem? (i := 10) rfl)) (hw _ (List.mem_of_getElem? (i := 11) rfl)) (hw _ (List.mem_of_getElem? (i := 12) rfl)) (by decide) (by decide) 0 (by decide) rfl own_pd2 rfl rfl (Nat.le_of_eq rfl) (by decide) (by decide) at_326 (pc' := 329) rfl fun T216 h217 lc218 r219 X220 Q221 => ?_
  obtain ⟨rfl, e222⟩ := Q221
  replace e222 := e222.symm
  subst e222
  show own_E p e below _ (T216.setTop (mkF m 329 #[.val (.long q1), .second, .val (.long q2), .second, .val (.long q3), .second, .val (.long q4), .second, .val (.long q5), .second, .val (.long q6), .second, .val (.long q1), .second, .val (.long q2), .second, .val (.long q3), .second, .val (.long q4), .second, .val (.long q5), .second, .val (.long q6), .second, .val (.long (q5 ^^^ q3)), .second, .val (.long (q6 ^^^ q4)), .second, .val (.ref b1), .val (.ref b57), .val (.long (own_v0_196 q1 q5)), .second, .val (.ref b123), .val (.long (own_v0_288 q1 q2 q3 q4 q5 q6)), .second, .val (.long (q1 + q5)), .second, .val (.long (own_v0_308 q1 q5)), .second, .val (.long (own_v0_318 q1 q2 q5 q6)), .second, .unset, .unset, .unset, .unset, .unset, .unset, .unset, .unset, .unset, .unset] [(.long (own_F2 (own_v0_318 q1 q2 q5 q6) q2 (own_v0_308 q1 q5)))]))
  refine own_lstore X220 at_329 (pc' := 331) rfl (y := (own_v0_329 q1 q2 q5 q6)) rfl (Ls' := #[.val (.long q1), .second, .val (.long q2), .second, .val (.long q3), .second, .val (.long q4), .second, .val (.long q5), .second, .val (.long q6), .second, .val (.long q1), .second, .val (.long q2), .second, .val (.long q3), .second, .val (.long q4), .second, .val (.long q5), .second, .val (.long q6), .second, .val (.long (q5 ^^^ q3)), .second, .val (.long (q6 ^^^ q4)), .second, .val (.ref b1), .val (.ref b57), .val (.long (own_v0_196 q1 q5)), .second, .val (.ref b123), .val (.long (own_v0_288 q1 q2 q3 q4 q5 q6)), .second, .val (.long (q1 + q5)), .second, .val (.long (own_v0_308 q1 q5)), .second, .val (.long (own_v0_318 q1 q2 q5 q6)), .second, .val (.long (own_v0_329 q1 q2 q5 q6)), .second, .unset, .unset, .unset, .unset, .unset, .unset, .unset, .unset]) rfl ?_
  refine own_lload X220 at_331 (pc' := 333) rfl (v := q3) rfl ?_
  refine own_lload X220 at_333 (pc' := 335) rfl (v := (q5 ^^^ q3)) rfl ?_
  refine own_ladd X220 at_335 (pc' := 336) rfl (z := (q3 + (q5 ^^^ q3))) rfl ?_
  refine own_lload X220 at_336 (pc' := 338) rfl (v := (own_v0_329 q1 q2 q5 q6)) rfl ?_
  refine own_ladd X220 at_338 (pc' := 339) rfl (z := ((q3 + (q5 ^^^ q3)) + (own_v0_329 q1 q2 q5 q6))) rfl ?_
  refine own_lstore X220 at_339 (pc' := 341) rfl (y := (own_v0_339 q1 q2 q3 q5 q6)) rfl (Ls' := #[.val (.long q1), .second, .val (.long q2), .second, .val (.long q3), .second, .val (.long q4), .second, .val (.long q5), .second, .val (.long q6), .second, .val (.long q1), .second, .val (.long q2), .second, .val (.long q3), .second, .val (.long q4), .second, .val (.long q5), .second, .val (.long q6), .second, .val (.long (q5 ^^^ q3)), .second, .val (.long (q6 ^^^ q4)), .second, .val (.ref b1), .val (.ref b57), .val (.long (own_v0_196 q1 q5)), .second, .val (.ref b123), .val (.long (own_v0_288 q1 q2 q3 q4 q5 q6)), .second, .val (.long (q1 + q5)), .second, .val (.long (own_v0_308 q1 q5)), .second, .val (.long (own_v0_318 q1 q2 q5 q6)), .second, .val (.long (own_v0_329 q1 q2 q5 q6)), .second, .val (.long (own_v0_339 q1 q2 q3 q5 q6)), .second, .unset, .unset, .unset, .unset, .unset, .unset]) rfl ?_
  refine own_lload X220 at_341 (pc' := 343) rfl (v := (own_v0_339 q1 q2 q3 q5 q6)) rfl ?_
  refine own_lload X220 at_343 (pc' := 345) rfl (v := q3) rfl ?_
  refine own_lload X220 at_345 (pc' := 347) rfl (v := (own_v0_329 q1 q2 q5 q6)) rfl ?_
  refine own_callS X220 (argsL := [(.long (own_v0_339 q1 q2 q3 q5 q6)), (.long q3), (.long (own_v0_329 q1 q2 q5 q6))]) (S := []) (own_rm2 l Z a0 hw (own_v0_339 q1 q2 q3 q5 q6) q3 (own_v0_329 q1 q2 q5 q6) h200 n0 X220.2.2.2.2.2.2.2.2.1 ) (hw _ (List.mem_of_getElem? (i := 9) rfl)) (hw _ (List.mem_of_getElem? (i := 10) rfl)) (hw _ (List.mem_of_getElem? (i := 11) rfl)) (hw _ (List.mem_of_getElem? (i := 12) rfl)) (by decide) (by decide) 0 (by decide) rfl own_pd2 rfl rfl (Nat.le_of_eq rfl) (by decide) (by decide) at_347 (pc' := 350) rfl fun T223 h224 lc225 r226 X227 Q228 => ?_
  obtain ⟨rfl, e229⟩ := Q228
  replace e229 := e229.symm
  subst e229
  show own_E p e below _ (T223.setTop (mkF m 350 #[.val (.long q1), .second, .val (.long q2), .second, .val (.long q3), .second, .val (.long q4), .second, .val (.long q5), .second, .val (.long q6), .second, .val (.long q1), .second, .val (.long q2), .second, .val (.long q3), .second, .val (.long q4), .second, .val (.long q5), .second, .val (.long q6), .second, .val (.long (q5 ^^^ q3)), .second, .val (.long (q6 ^^^ q4)), .second, .val (.ref b1), .val (.ref b57), .val (.long (own_v0_196 q1 q5)), .second, .val (.ref b123), .val (.long (own_v0_288 q1 q2 q3 q4 q5 q6)), .second, .val (.long (q1 + q5)), .second, .val (.long (own_v0_308 q1 q5)), .second, .val (.long (own_v0_318 q1 q2 q5 q6)), .second, .val (.long (own_v0_329 q1 q2 q5 q6)), .second, .val (.long (own_v0_339 q1 q2 q3 q5 q6)), .second, .unset, .unset, .unset, .unset, .unset, .unset] [(.long (own_F2 (own_v0_339 q1 q2 q3 q5 q6) q3 (own_v0_329 q1 q2 q5 q6)))]))
  refine own_lstore X227 at_350 (pc' := 352) rfl (y := (own_v0_350 q1 q2 q3 q5 q6)) rfl (Ls' := #[.val (.long q1), .second, .val (.long q2), .second, .val (.long q3), .second, .val (.long q4), .second, .val (.long q5), .second, .val (.long q6), .second, .val (.long q1), .second, .val (.long q2), .second, .val (.long q3), .second, .val (.long q4), .second, .val (.long q5), .second, .val (.long q6), .second, .val (.long (q5 ^^^ q3)), .second, .val (.long (q6 ^^^ q4)), .second, .val (.ref b1), .val (.ref b57), .val (.long (own_v0_196 q1 q5)), .second, .val (.ref b123), .val (.long (own_v0_288 q1 q2 q3 q4 q5 q6)), .second, .val (.long (q1 + q5)), .second, .val (.long (own_v0_308 q1 q5)), .second, .val (.long (own_v0_318 q1 q2 q5 q6)), .second, .val (.long (own_v0_329 q1 q2 q5 q6)), .second, .val (.long (own_v0_339 q1 q2 q3 q5 q6)), .second, .val (.long (own_v0_350 q1 q2 q3 q5 q6)), .second, .unset, .unset, .unset, .unset]) rfl ?_
  refine own_lload X227 at_352 (pc' := 354) rfl (v := q4) rfl ?_
  refine own_lload X227 at_354 (pc' := 356) rfl (v := (q6 ^^^ q4)) rfl ?_
  refine own_ladd X227 at_356 (pc' := 357) rfl (z := (q4 + (q6 ^^^ q4))) rfl ?_
  refine own_lload X227 at_357 (pc' := 359) rfl (v := (own_v0_350 q1 q2 q3 q5 q6)) rfl ?_
  refine own_ladd X227 at_359 (pc' := 360) rfl (z := ((q4 + (q6 ^^^ q4)) + (own_v0_350 q1 q2 q3 q5 q6))) rfl ?_
  refine own_lstore X227 at_360 (pc' := 362) rfl (y := (own_v0_360 q1 q2 q3 q4 q5 q6)) rfl (Ls' := #[.val (.long q1), .second, .val (.long q2), .second, .val (.long q3), .second, .val (.long q4), .second, .val (.long q5), .second, .val (.long q6), .second, .val (.long q1), .second, .val (.long q2), .second, .val (.long q3), .second, .val (.long q4), .second, .val (.long q5), .second, .val (.long q6), .second, .val (.long (q5 ^^^ q3)), .second, .val (.long (q6 ^^^ q4)), .second, .val (.ref b1), .val (.ref b57), .val (.long (own_v0_196 q1 q5)), .second, .val (.ref b123), .val (.long (own_v0_288 q1 q2 q3 q4 q5 q6)), .second, .val (.long (q1 + q5)), .second, .val (.long (own_v0_308 q1 q5)), .second, .val (.long (own_v0_318 q1 q2 q5 q6)), .second, .val (.long (own_v0_329 q1 q2 q5 q6)), .second, .val (.long (own_v0_339 q1 q2 q3 q5 q6)), .second, .val (.long (own_v0_350 q1 q2 q3 q5 q6)), .second, .val (.long (own_v0_360 q1 q2 q3 q4 q5 q6)), .second, .unset, .unset]) rfl ?_
  refine own_lload X227 at_362 (pc' := 364) rfl (v := (own_v0_360 q1 q2 q3 q4 q5 q6)) rfl ?_
  refine own_lload X227 at_364 (pc' := 366) rfl (v := q4) rfl ?_
  refine own_lload X227 at_366 (pc' := 368) rfl (v := (own_v0_350 q1 q2 q3 q5 q6)) rfl ?_
  refine own_callS X227 (argsL := [(.long (own_v0_360 q1 q2 q3 q4 q5 q6)), (.long q4), (.long (own_v0_350 q1 q2 q3 q5 q6))]) (S := []) (own_rm2 l Z a0 hw (own_v0_360 q1 q2 q3 q4 q5 q6) q4 (own_v0_350 q1 q2 q3 q5 q6) h200 n0 X227.2.2.2.2.2.2.2.2.1 ) (hw _ (List.mem_of_getElem? (i := 9) rfl)) (hw _ (List.mem_of_getElem? (i := 10) rfl)) (hw _ (List.mem_of_getElem? (i := 11) rfl)) (hw _ (List.mem_of_getElem? (i := 12) rfl)) (by decide) (by decide) 0 (by decide) rfl own_pd2 rfl rfl (Nat.le_of_eq rfl) (by decide) (by decide) at_368 (pc' := 371) rfl fun T230 h231 lc232 r233 X234 Q235 => ?_
  obtain ⟨rfl, e236⟩ := Q235
  replace e236 := e236.symm
  subst e236
  show own_E p e below _ (T230.setTop (mkF m 371 #[.val (.long q1), .second, .val (.long q2), .second, .val (.long q3), .second, .val (.long q4), .second, .val (.long q5), .second, .val (.long q6), .second, .val (.long q1), .second, .val (.long q2), .second, .val (.long q3), .second, .val (.long q4), .second, .val (.long q5), .second, .val (.long q6), .second, .val (.long (q5 ^^^ q3)), .second, .val (.long (q6 ^^^ q4)), .second, .val (.ref b1), .val (.ref b57), .val (.long (own_v0_196 q1 q5)), .second, .val (.ref b123), .val (.long (own_v0_288 q1 q2 q3 q4 q5 q6)), .second, .val (.long (q1 + q5)), .second, .val (.long (own_v0_308 q1 q5)), .second, .val (.long (own_v0_318 q1 q2 q5 q6)), .second, .val (.long (own_v0_329 q1 q2 q5 q6)), .second, .val (.long (own_v0_339 q1 q2 q3 q5 q6)), .second, .val (.long (own_v0_350 q1 q2 q3 q5 q6)), .second, .val (.long (own_v0_360 q1 q2 q3 q4 q5 q6)), .second, .unset, .unset] [(.long (own_F2 (own_v0_360 q1 q2 q3 q4 q5 q6) q4 (own_v0_350 q1 q2 q3 q5 q6)))]))
  refine own_lstore X234 at_371 (pc' := 373) rfl (y := (own_v0_371 q1 q2 q3 q4 q5 q6)) rfl (Ls' := #[.val (.long q1), .second, .val (.long q2), .second, .val (.long q3), .second, .val (.long q4), .second, .val (.long q5), .second, .val (.long q6), .second, .val (.long q1), .second, .val (.long q2), .second, .val (.long q3), .second, .val (.long q4), .second, .val (.long q5), .second, .val (.long q6), .second, .val (.long (q5 ^^^ q3)), .second, .val (.long (q6 ^^^ q4)), .second, .val (.ref b1), .val (.ref b57), .val (.long (own_v0_196 q1 q5)), .second, .val (.ref b123), .val (.long (own_v0_288 q1 q2 q3 q4 q5 q6)), .second, .val (.long (q1 + q5)), .second, .val (.long (own_v0_308 q1 q5)), .second, .val (.long (own_v0_318 q1 q2 q5 q6)), .second, .val (.long (own_v0_329 q1 q2 q5 q6)), .second, .val (.long (own_v0_339 q1 q2 q3 q5 q6)), .second, .val (.long (own_v0_350 q1 q2 q3 q5 q6)), .second, .val (.long (own_v0_360 q1 q2 q3 q4 q5 q6)), .second, .val (.long (own_v0_371 q1 q2 q3 q4 q5 q6)), .second]) rfl ?_
  refine own_aload X234 at_373 (pc' := 375) rfl (v := (.ref b123)) rfl rfl ?_
  refine own_iconst X234 at_375 (pc' := 376) rfl (z := (0 : Int32)) rfl ?_
  refine own_laload X234 V206 (by decide) (by decide) (y := (own_v1_15 (own_v0_48 q1) (own_v0_124 q5))) rfl at_376 (pc' := 377) rfl ?_
  refine own_lload X234 at_377 (pc' := 379) rfl (v := (q1 + q5)) rfl ?_
  refine own_ldc2 X234 (hw _ (List.mem_of_getElem? (i := 1) rfl)) at_379 (pc' := 382) rfl ?_
  refine own_land X234 at_382 (pc' := 383) rfl (z := ((q1 + q5) &&& (4294967295 : Int64))) rfl ?_
  by_cases hc237 : (own_v1_15 (own_v0_48 q1) (own_v0_124 q5)) = ((q1 + q5) &&& (4294967295 : Int64))
  · refine own_ljN X234 at_383 rfl at_384 (own_teqL hc237).2 (pc' := 387) rfl ?_
    refine own_aload X234 at_387 (pc' := 389) rfl (v := (.ref b123)) rfl rfl ?_
    refine own_iconst X234 at_389 (pc' := 390) rfl (z := (1 : Int32)) rfl ?_
    refine own_laload X234 V206 (by decide) (by decide) (y := (own_v1_36 (own_v0_48 q1) (own_v0_56 q1) (own_v0_124 q5) (own_v0_132 q5))) rfl at_390 (pc' := 391) rfl ?_
    refine own_lload X234 at_391 (pc' := 393) rfl (v := (q1 + q5)) rfl ?_
    refine own_bipush X234 at_393 (pc' := 395) rfl (z := (32 : Int32)) rfl ?_
    refine own_lushr X234 at_395 (pc' := 396) rfl (z := (((q1 + q5).toUInt64 >>> (32 : UInt64)).toInt64)) rfl ?_
    by_cases hc238 : (own_v1_36 (own_v0_48 q1) (own_v0_56 q1) (own_v0_124 q5) (own_v0_132 q5)) = (((q1 + q5).toUInt64 >>> (32 : UInt64)).toInt64)
    · refine own_ljN X234 at_396 rfl at_397 (own_teqL hc238).2 (pc' := 400) rfl ?_
      refine own_aload X234 at_400 (pc' := 402) rfl (v := (.ref b123)) rfl rfl ?_
      refine own_iconst X234 at_402 (pc' := 403) rfl (z := (2 : Int32)) rfl ?_
      refine own_laload X234 V206 (by decide) (by decide) (y := (own_v1_57 (own_v0_48 q1) (own_v0_56 q1) (own_v0_65 q2) (own_v0_124 q5) (own_v0_132 q5) (own_v0_141 q6))) rfl at_403 (pc' := 404) rfl ?_
      refine own_lload X234 at_404 (pc' := 406) rfl (v := (own_v0_318 q1 q2 q5 q6)) rfl ?_
      refine own_ldc2 X234 (hw _ (List.mem_of_getElem? (i := 1) rfl)) at_406 (pc' := 409) rfl ?_
      refine own_land X234 at_409 (pc' := 410) rfl (z := ((own_v0_318 q1 q2 q5 q6) &&& (4294967295 : Int64))) rfl ?_
      by_cases hc239 : (own_v1_57 (own_v0_48 q1) (own_v0_56 q1) (own_v0_65 q2) (own_v0_124 q5) (own_v0_132 q5) (own_v0_141 q6)) = ((own_v0_318 q1 q2 q5 q6) &&& (4294967295 : Int64))
      · refine own_ljN X234 at_410 rfl at_411 (own_teqL hc239).2 (pc' := 414) rfl ?_
        refine own_aload X234 at_414 (pc' := 416) rfl (v := (.ref b123)) rfl rfl ?_
        refine own_iconst X234 at_416 (pc' := 417) rfl (z := (3 : Int32)) rfl ?_
        refine own_laload X234 V206 (by decide) (by decide) (y := (own_v1_78 (own_v0_48 q1) (own_v0_56 q1) (own_v0_65 q2) (own_v0_73 q2) (own_v0_124 q5) (own_v0_132 q5) (own_v0_141 q6) (own_v0_149 q6))) rfl at_417 (pc' := 418) rfl ?_
        refine own_lload X234 at_418 (pc' := 420) rfl (v := (own_v0_318 q1 q2 q5 q6)) rfl ?_
        refine own_bipush X234 at_420 (pc' := 422) rfl (z := (32 : Int32)) rfl ?_
        refine own_lushr X234 at_422 (pc' := 423) rfl (z := (((own_v0_318 q1 q2 q5 q6).toUInt64 >>> (32 : UInt64)).toInt64)) rfl ?_
        by_cases hc240 : (own_v1_78 (own_v0_48 q1) (own_v0_56 q1) (own_v0_65 q2) (own_v0_73 q2) (own_v0_124 q5) (own_v0_132 q5) (own_v0_141 q6) (own_v0_149 q6)) = (((own_v0_318 q1 q2 q5 q6).toUInt64 >>> (32 : UInt64)).toInt64)
        · refine own_ljN X234 at_423 rfl at_424 (own_teqL hc240).2 (pc' := 427) rfl ?_
          refine own_aload X234 at_427 (pc' := 429) rfl (v := (.ref b123)) rfl rfl ?_
          refine own_iconst X234 at_429 (pc' := 430) rfl (z := (4 : Int32)) rfl ?_
          refine own_laload X234 V206 (by decide) (by decide) (y := (own_v1_99 (own_v0_48 q1) (own_v0_56 q1) (own_v0_65 q2) (own_v0_73 q2) (own_v0_82 q3) (own_v0_124 q5) (own_v0_132 q5) (own_v0_141 q6) (own_v0_149 q6) (own_v0_158 q3 q5))) rfl at_430 (pc' := 431) rfl ?_
          refine own_lload X234 at_431 (pc' := 433) rfl (v := (own_v0_339 q1 q2 q3 q5 q6)) rfl ?_
          refine own_ldc2 X234 (hw _ (List.mem_of_getElem? (i := 1) rfl)) at_433 (pc' := 436) rfl ?_
          refine own_land X234 at_436 (pc' := 437) rfl (z := ((own_v0_339 q1 q2 q3 q5 q6) &&& (4294967295 : Int64))) rfl ?_
          by_cases hc241 : (own_v1_99 (own_v0_48 q1) (own_v0_56 q1) (own_v0_65 q2) (own_v0_73 q2) (own_v0_82 q3) (own_v0_124 q5) (own_v0_132 q5) (own_v0_141 q6) (own_v0_149 q6) (own_v0_158 q3 q5)) = ((own_v0_339 q1 q2 q3 q5 q6) &&& (4294967295 : Int64))
          · refine own_ljN X234 at_437 rfl at_438 (own_teqL hc241).2 (pc' := 441) rfl ?_
            refine own_aload X234 at_441 (pc' := 443) rfl (v := (.ref b123)) rfl rfl ?_
            refine own_iconst X234 at_443 (pc' := 444) rfl (z := (5 : Int32)) rfl ?_
            refine own_laload X234 V206 (by decide) (by decide) (y := (own_v1_120 (own_v0_48 q1) (own_v0_56 q1) (own_v0_65 q2) (own_v0_73 q2) (own_v0_82 q3) (own_v0_90 q3) (own_v0_124 q5) (own_v0_132 q5) (own_v0_141 q6) (own_v0_149 q6) (own_v0_158 q3 q5) (own_v0_166 q3 q5))) rfl at_444 (pc' := 445) rfl ?_
            refine own_lload X234 at_445 (pc' := 447) rfl (v := (own_v0_339 q1 q2 q3 q5 q6)) rfl ?_
            refine own_bipush X234 at_447 (pc' := 449) rfl (z := (32 : Int32)) rfl ?_
            refine own_lushr X234 at_449 (pc' := 450) rfl (z := (((own_v0_339 q1 q2 q3 q5 q6).toUInt64 >>> (32 : UInt64)).toInt64)) rfl ?_
            by_cases hc242 : (own_v1_120 (own_v0_48 q1) (own_v0_56 q1) (own_v0_65 q2) (own_v0_73 q2) (own_v0_82 q3) (own_v0_90 q3) (own_v0_124 q5) (own_v0_132 q5) (own_v0_141 q6) (own_v0_149 q6) (own_v0_158 q3 q5) (own_v0_166 q3 q5)) = (((own_v0_339 q1 q2 q3 q5 q6).toUInt64 >>> (32 : UInt64)).toInt64)
            · refine own_ljN X234 at_450 rfl at_451 (own_teqL hc242).2 (pc' := 454) rfl ?_
              refine own_aload X234 at_454 (pc' := 456) rfl (v := (.ref b123)) rfl rfl ?_
              refine own_bipush X234 at_456 (pc' := 458) rfl (z := (6 : Int32)) rfl ?_
              refine own_laload X234 V206 (by decide) (by decide) (y := (own_v1_144 (own_v0_48 q1) (own_v0_56 q1) (own_v0_65 q2) (own_v0_73 q2) (own_v0_82 q3) (own_v0_90 q3) (own_v0_100 q4) (own_v0_124 q5) (own_v0_132 q5) (own_v0_141 q6) (own_v0_149 q6) (own_v0_158 q3 q5) (own_v0_166 q3 q5) (own_v0_176 q4 q6))) rfl at_458 (pc' := 459) rfl ?_
              refine own_lload X234 at_459 (pc' := 461) rfl (v := (own_v0_360 q1 q2 q3 q4 q5 q6)) rfl ?_
              refine own_ldc2 X234 (hw _ (List.mem_of_getElem? (i := 1) rfl)) at_461 (pc' := 464) rfl ?_
              refine own_land X234 at_464 (pc' := 465) rfl (z := ((own_v0_360 q1 q2 q3 q4 q5 q6) &&& (4294967295 : Int64))) rfl ?_
              by_cases hc243 : (own_v1_144 (own_v0_48 q1) (own_v0_56 q1) (own_v0_65 q2) (own_v0_73 q2) (own_v0_82 q3) (own_v0_90 q3) (own_v0_100 q4) (own_v0_124 q5) (own_v0_132 q5) (own_v0_141 q6) (own_v0_149 q6) (own_v0_158 q3 q5) (own_v0_166 q3 q5) (own_v0_176 q4 q6)) = ((own_v0_360 q1 q2 q3 q4 q5 q6) &&& (4294967295 : Int64))
              · refine own_ljN X234 at_465 rfl at_466 (own_teqL hc243).2 (pc' := 469) rfl ?_
                refine own_aload X234 at_469 (pc' := 471) rfl (v := (.ref b123)) rfl rfl ?_
                refine own_bipush X234 at_471 (pc' := 473) rfl (z := (7 : Int32)) rfl ?_
                refine own_laload X234 V206 (by decide) (by decide) (y := (own_v1_168 (own_v0_48 q1) (own_v0_56 q1) (own_v0_65 q2) (own_v0_73 q2) (own_v0_82 q3) (own_v0_90 q3) (own_v0_100 q4) (own_v0_109 q4) (own_v0_124 q5) (own_v0_132 q5) (own_v0_141 q6) (own_v0_149 q6) (own_v0_158 q3 q5) (own_v0_166 q3 q5) (own_v0_176 q4 q6) (own_v0_185 q4 q6))) rfl at_473 (pc' := 474) rfl ?_
                refine own_lload X234 at_474 (pc' := 476) rfl (v := (own_v0_360 q1 q2 q3 q4 q5 q6)) rfl ?_
                refine own_bipush X234 at_476 (pc' := 478) rfl (z := (32 : Int32)) rfl ?_
                refine own_lushr X234 at_478 (pc' := 479) rfl (z := (((own_v0_360 q1 q2 q3 q4 q5 q6).toUInt64 >>> (32 : UInt64)).toInt64)) rfl ?_
                by_cases hc244 : (own_v1_168 (own_v0_48 q1) (own_v0_56 q1) (own_v0_65 q2) (own_v0_73 q2) (own_v0_82 q3) (own_v0_90 q3) (own_v0_100 q4) (own_v0_109 q4) (own_v0_124 q5) (own_v0_132 q5) (own_v0_141 q6) (own_v0_149 q6) (own_v0_158 q3 q5) (own_v0_166 q3 q5) (own_v0_176 q4 q6) (own_v0_185 q4 q6)) = (((own_v0_360 q1 q2 q3 q4 q5 q6).toUInt64 >>> (32 : UInt64)).toInt64)
                · refine own_ljN X234 at_479 rfl at_480 (own_teqL hc244).2 (pc' := 483) rfl ?_
                  refine own_lload X234 at_483 (pc' := 485) rfl (v := (own_v0_288 q1 q2 q3 q4 q5 q6)) rfl ?_
                  refine own_lload X234 at_485 (pc' := 487) rfl (v := (own_v0_371 q1 q2 q3 q4 q5 q6)) rfl ?_
                  by_cases hc245 : (own_v0_288 q1 q2 q3 q4 q5 q6) = (own_v0_371 q1 q2 q3 q4 q5 q6)
                  · refine own_ljN X234 at_487 rfl at_488 (own_teqL hc245).2 (pc' := 491) rfl ?_
                    refine own_iconst X234 at_491 (pc' := 492) rfl (z := (1 : Int32)) rfl ?_
                    refine own_goto X234 at_492 (by decide) (pc' := 496) rfl ?_
                    refine own_iret X234 (t := .boolean) (w := (1 : Int32)) hret (by simp) at_496 rfl (by decide) (by decide) ?_
                    exact congrArg (fun t => some (Value.int t)) (show (1 : Int32) = own_F0 q1 q2 q3 q4 q5 q6 from (by rw [own_F0, if_pos hc237, if_pos hc238, if_pos hc239, if_pos hc240, if_pos hc241, if_pos hc242, if_pos hc243, if_pos hc244, if_pos hc245]))
                  · refine own_ljY X234 at_487 rfl at_488 (own_feqL hc245).2 (by decide) (pc' := 495) rfl ?_
                    refine own_iconst X234 at_495 (pc' := 496) rfl (z := (0 : Int32)) rfl ?_
                    refine own_iret X234 (t := .boolean) (w := (0 : Int32)) hret (by simp) at_496 rfl (by decide) (by decide) ?_
                    exact congrArg (fun t => some (Value.int t)) (show (0 : Int32) = own_F0 q1 q2 q3 q4 q5 q6 from (by rw [own_F0, if_pos hc237, if_pos hc238, if_pos hc239, if_pos hc240, if_pos hc241, if_pos hc242, if_pos hc243, if_pos hc244, if_neg hc245]))
                · refine own_ljY X234 at_479 rfl at_480 (own_feqL hc244).2 (by decide) (pc' := 495) rfl ?_
                  refine own_iconst X234 at_495 (pc' := 496) rfl (z := (0 : Int32)) rfl ?_
                  refine own_iret X234 (t := .boolean) (w := (0 : Int32)) hret (by simp) at_496 rfl (by decide) (by decide) ?_
                  exact congrArg (fun t => some (Value.int t)) (show (0 : Int32) = own_F0 q1 q2 q3 q4 q5 q6 from (by rw [own_F0, if_pos hc237, if_pos hc238, if_pos hc239, if_pos hc240, if_pos hc241, if_pos hc242, if_pos hc243, if_neg hc244]))
              · refine own_ljY X234 at_465 rfl at_466 (own_feqL hc243).2 (by decide) (pc' := 495) rfl ?_
                refine own_iconst X234 at_495 (pc' := 496) rfl (z := (0 : Int32)) rfl ?_
                refine own_iret X234 (t := .boolean) (w := (0 : Int32)) hret (by simp) at_496 rfl (by decide) (by decide) ?_
                exact congrArg (fun t => some (Value.int t)) (show (0 : Int32) = own_F0 q1 q2 q3 q4 q5 q6 from (by rw [own_F0, if_pos hc237, if_pos hc238, if_pos hc239, if_pos hc240, if_pos hc241, if_pos hc242, if_neg hc243]))
            · refine own_ljY X234 at_450 rfl at_451 (own_feqL hc242).2 (by decide) (pc' := 495) rfl ?_
              refine own_iconst X234 at_495 (pc' := 496) rfl (z := (0 : Int32)) rfl ?_
              refine own_iret X234 (t := .boolean) (w := (0 : Int32)) hret (by simp) at_496 rfl (by decide) (by decide) ?_
              exact congrArg (fun t => some (Value.int t)) (show (0 : Int32) = own_F0 q1 q2 q3 q4 q5 q6 from (by rw [own_F0, if_pos hc237, if_pos hc238, if_pos hc239, if_pos hc240, if_pos hc241, if_neg hc242]))
          · refine own_ljY X234 at_437 rfl at_438 (own_feqL hc241).2 (by decide) (pc' := 495) rfl ?_
            refine own_iconst X234 at_495 (pc' := 496) rfl (z := (0 : Int32)) rfl ?_
            refine own_iret X234 (t := .boolean) (w := (0 : Int32)) hret (by simp) at_496 rfl (by decide) (by decide) ?_
            exact congrArg (fun t => some (Value.int t)) (show (0 : Int32) = own_F0 q1 q2 q3 q4 q5 q6 from (by rw [own_F0, if_pos hc237, if_pos hc238, if_pos hc239, if_pos hc240, if_neg hc241]))
        · refine own_ljY X234 at_423 rfl at_424 (own_feqL hc240).2 (by decide) (pc' := 495) rfl ?_
          refine own_iconst X234 at_495 (pc' := 496) rfl (z := (0 : Int32)) rfl ?_
          refine own_iret X234 (t := .boolean) (w := (0 : Int32)) hret (by simp) at_496 rfl (by decide) (by decide) ?_
          exact congrArg (fun t => some (Value.int t)) (show (0 : Int32) = own_F0 q1 q2 q3 q4 q5 q6 from (by rw [own_F0, if_pos hc237, if_pos hc238, if_pos hc239, if_neg hc240]))
      · refine own_ljY X234 at_410 rfl at_411 (own_feqL hc239).2 (by decide) (pc' := 495) rfl ?_
        refine own_iconst X234 at_495 (pc' := 496) rfl (z := (0 : Int32)) rfl ?_
        refine own_iret X234 (t := .boolean) (w := (0 : Int32)) hret (by simp) at_496 rfl (by decide) (by decide) ?_
        exact congrArg (fun t => some (Value.int t)) (show (0 : Int32) = own_F0 q1 q2 q3 q4 q5 q6 from (by rw [own_F0, if_pos hc237, if_pos hc238, if_neg hc239]))
    · refine own_ljY X234 at_396 rfl at_397 (own_feqL hc238).2 (by decide) (pc' := 495) rfl ?_
      refine own_iconst X234 at_495 (pc' := 496) rfl (z := (0 : Int32)) rfl ?_
      refine own_iret X234 (t := .boolean) (w := (0 : Int32)) hret (by simp) at_496 rfl (by decide) (by decide) ?_
      exact congrArg (fun t => some (Value.int t)) (show (0 : Int32) = own_F0 q1 q2 q3 q4 q5 q6 from (by rw [own_F0, if_pos hc237, if_neg hc238]))
  · refine own_ljY X234 at_383 rfl at_384 (own_feqL hc237).2 (by decide) (pc' := 495) rfl ?_
    refine own_iconst X234 at_495 (pc' := 496) rfl (z := (0 : Int32)) rfl ?_
    refine own_iret X234 (t := .boolean) (w := (0 : Int32)) hret (by simp) at_496 rfl (by decide) (by decide) ?_
    exact congrArg (fun t => some (Value.int t)) (show (0 : Int32) = own_F0 q1 q2 q3 q4 q5 q6 from (by rw [own_F0, if_neg hc237]))
theorem own_U_flip (v : Int64) : own_U (v ^^^ (-9223372036854775808 : Int64)) = (own_U v + 9223372036854775808) % 18446744073709551616 := by
  have e : v ^^^ (-9223372036854775808 : Int64) = v + (-9223372036854775808 : Int64) := by
    apply Int64.toBitVec_inj.mp
    rw [Int64.toBitVec_xor, Int64.toBitVec_add]
    show v.toBitVec ^^^ (BitVec.intMin 64) = v.toBitVec + BitVec.intMin 64
    rw [BitVec.add_comm, BitVec.xor_comm]
    apply BitVec.eq_of_toNat_eq
    have hv := v.toBitVec.isLt
    rw [BitVec.toNat_xor, BitVec.toNat_add]
    have em : (BitVec.intMin 64).toNat = 2 ^ 63 := by decide
    rw [em]
    generalize v.toBitVec.toNat = n at hv
    by_cases c : n < 2 ^ 63
    · have : 2 ^ 63 ^^^ n = 2 ^ 63 + n := by
        have h := Nat.two_pow_add_eq_or_of_lt c 1
        rw [Nat.mul_one] at h
        rw [h]
        apply Nat.eq_of_testBit_eq
        intro i
        rw [Nat.testBit_xor, Nat.testBit_or]
        by_cases q : i = 63
        · subst q; rw [Nat.testBit_lt_two_pow c]; simp
        · have : (2 ^ 63).testBit i = false := by rw [Nat.testBit_two_pow]; simp; omega
          rw [this]; simp
      rw [this]; omega
    · obtain ⟨m, rfl⟩ : ∃ m, n = 2 ^ 63 + m := ⟨n - 2 ^ 63, by omega⟩
      have hm : m < 2 ^ 63 := by omega
      have h := Nat.two_pow_add_eq_or_of_lt hm 1
      rw [Nat.mul_one] at h
      have : 2 ^ 63 ^^^ (2 ^ 63 + m) = m := by
        rw [h]
        apply Nat.eq_of_testBit_eq
        intro i
        rw [Nat.testBit_xor, Nat.testBit_or]
        by_cases q : i = 63
        · subst q; rw [Nat.testBit_lt_two_pow hm]; simp
        · have : (2 ^ 63).testBit i = false := by rw [Nat.testBit_two_pow]; simp; omega
          rw [this]; simp
      rw [this]; omega
  rw [e, own_U_add]
  rfl
theorem own_below (a b : Int64) : own_F3 a b = if own_U a < own_U b then 1 else 0 := by
  rw [own_F3]
  have la := own_U_lt a
  have lb := own_U_lt b
  have fa := own_U_flip a
  have fb := own_U_flip b
  have ia := own_U_int (a ^^^ (-9223372036854775808 : Int64))
  have ib := own_U_int (b ^^^ (-9223372036854775808 : Int64))
  have : ((a ^^^ (-9223372036854775808 : Int64)) < (b ^^^ (-9223372036854775808 : Int64))) ↔ own_U a < own_U b := by
    rw [own_ltL, ia, ib]; split <;> split <;> omega
  by_cases c : own_U a < own_U b
  · rw [if_pos c, if_pos (this.mpr c)]
  · rw [if_neg c, if_neg (fun q => c (this.mp q))]
theorem own_carry {s x c : Int64} {Y k : Nat} (hk : own_U c = k) (h1 : k ≤ 1) (hY : Y < 18446744073709551616) (hs : own_U s = (own_U x + Y + k) % 18446744073709551616) : own_U (own_F2 s x c) = (own_U x + Y + k) / 18446744073709551616 := by
  have lx := own_U_lt x
  have u0 : own_U (0 : Int64) = 0 := rfl
  have u1 : own_U (1 : Int64) = 1 := rfl
  rw [own_F2, own_below]
  by_cases c1 : own_U s < own_U x
  · rw [if_pos c1, if_neg (by decide), u1]; omega
  · rw [if_neg c1, if_pos rfl]
    by_cases c2 : c = 0
    · rw [if_pos c2, u0]
      have : k = 0 := by rw [← hk, c2]; rfl
      omega
    · rw [if_neg c2]
      have : k ≠ 0 := fun q => c2 (own_U_inj (by rw [hk, q]; rfl))
      by_cases c3 : s = x
      · rw [if_pos c3, u1]; rw [c3] at hs; omega
      · rw [if_neg c3, u0]
        have : own_U s ≠ own_U x := fun q => c3 (own_U_inj q)
        omega
theorem own_word {x y s t0 t1 : Int64} {k : Nat} (hk : k ≤ 1) (h0 : own_U t0 = k + own_U x % 4294967296 + own_U y % 4294967296) (h1 : own_U t1 = own_U t0 / 4294967296 + own_U x / 4294967296 + own_U y / 4294967296) (hs : own_U s = (own_U x + own_U y + k) % 18446744073709551616) :
    (t0 &&& (4294967295 : Int64)) = (s &&& (4294967295 : Int64)) ∧ (t1 &&& (4294967295 : Int64)) = ((s.toUInt64 >>> (32 : UInt64)).toInt64) ∧ own_U ((t1.toUInt64 >>> (32 : UInt64)).toInt64) = (own_U x + own_U y + k) / 18446744073709551616 := by
  have lx := own_U_lt x
  have ly := own_U_lt y
  refine ⟨own_U_inj ?_, own_U_inj ?_, ?_⟩
  · rw [own_U_lo, own_U_lo]; omega
  · rw [own_U_lo, own_U_hi]; omega
  · rw [own_U_hi]; omega
/-- three numbers below 2^33 in all, added as longs -/
theorem own_add3 {c a b : Int64} {k A B : Nat} (hc : own_U c = k) (ha : own_U a = A) (hb : own_U b = B) (h : k + A + B < 18446744073709551616) : own_U (c + a + b) = k + A + B := by
  rw [own_U_add, own_U_add, hc, ha, hb]; omega
theorem own_plain (q1 q2 q3 q4 q5 q6 : Int64) : own_F0 q1 q2 q3 q4 q5 q6 = 1 := by
  have l1 := own_U_lt q1
  have l2 := own_U_lt q2
  have l3 := own_U_lt q3
  have l4 := own_U_lt q4
  have l5 := own_U_lt q5
  have l6 := own_U_lt q6
  have ly2 := own_U_lt (q5 ^^^ q3)
  have ly3 := own_U_lt (q6 ^^^ q4)
  -- word 0
  have s0 : own_U (q1 + q5) = (own_U q1 + own_U q5 + 0) % 18446744073709551616 := own_U_add q1 q5
  have t0 : own_U (own_v0_48 q1 + own_v0_124 q5) = 0 + own_U q1 % 4294967296 + own_U q5 % 4294967296 := by
    rw [own_U_add, own_v0_48, own_v0_124, own_U_lo, own_U_lo]; omega
  have t1 : own_U (own_v1_28 (own_v0_48 q1) (own_v0_56 q1) (own_v0_124 q5) (own_v0_132 q5)) = own_U (own_v0_48 q1 + own_v0_124 q5) / 4294967296 + own_U q1 / 4294967296 + own_U q5 / 4294967296 :=
    own_add3 (own_U_hi _) (own_U_hi q1) (own_U_hi q5) (by omega)
  obtain ⟨w00, w01, w0c⟩ := own_word (s := q1 + q5) (by decide) t0 t1 s0
  have c0 : own_U (own_v0_308 q1 q5) = (own_U q1 + own_U q5 + 0) / 18446744073709551616 := own_carry (c := 0) rfl (by decide) l5 s0
  generalize hk1 : (own_U q1 + own_U q5 + 0) / 18446744073709551616 = k1 at *
  have b1 : k1 ≤ 1 := by omega
  -- word 1
  have s1 : own_U (own_v0_318 q1 q2 q5 q6) = (own_U q2 + own_U q6 + k1) % 18446744073709551616 := by
    rw [own_v0_318, own_U_add, own_U_add, c0]; omega
  have t2 : own_U (own_v1_49 (own_v0_48 q1) (own_v0_56 q1) (own_v0_65 q2) (own_v0_124 q5) (own_v0_132 q5) (own_v0_141 q6)) = k1 + own_U q2 % 4294967296 + own_U q6 % 4294967296 :=
    own_add3 w0c (own_U_lo q2) (own_U_lo q6) (by omega)
  have t3 : own_U (own_v1_70 (own_v0_48 q1) (own_v0_56 q1) (own_v0_65 q2) (own_v0_73 q2) (own_v0_124 q5) (own_v0_132 q5) (own_v0_141 q6) (own_v0_149 q6)) = own_U (own_v1_49 (own_v0_48 q1) (own_v0_56 q1) (own_v0_65 q2) (own_v0_124 q5) (own_v0_132 q5) (own_v0_141 q6)) / 4294967296 + own_U q2 / 4294967296 + own_U q6 / 4294967296 :=
    own_add3 (own_U_hi _) (own_U_hi q2) (own_U_hi q6) (by omega)
  obtain ⟨w10, w11, w1c⟩ := own_word b1 t2 t3 s1
  have c1 : own_U (own_v0_329 q1 q2 q5 q6) = (own_U q2 + own_U q6 + k1) / 18446744073709551616 := own_carry c0 b1 l6 s1
  generalize hk2 : (own_U q2 + own_U q6 + k1) / 18446744073709551616 = k2 at *
  have b2 : k2 ≤ 1 := by omega
  -- word 2
  have s2 : own_U (own_v0_339 q1 q2 q3 q5 q6) = (own_U q3 + own_U (q5 ^^^ q3) + k2) % 18446744073709551616 := by
    rw [own_v0_339, own_U_add, own_U_add, c1]; omega
  have t4 : own_U (own_v1_91 (own_v0_48 q1) (own_v0_56 q1) (own_v0_65 q2) (own_v0_73 q2) (own_v0_82 q3) (own_v0_124 q5) (own_v0_132 q5) (own_v0_141 q6) (own_v0_149 q6) (own_v0_158 q3 q5)) = k2 + own_U q3 % 4294967296 + own_U (q5 ^^^ q3) % 4294967296 :=
    own_add3 w1c (own_U_lo q3) (own_U_lo (q5 ^^^ q3)) (by omega)
  have t5 : own_U (own_v1_112 (own_v0_48 q1) (own_v0_56 q1) (own_v0_65 q2) (own_v0_73 q2) (own_v0_82 q3) (own_v0_90 q3) (own_v0_124 q5) (own_v0_132 q5) (own_v0_141 q6) (own_v0_149 q6) (own_v0_158 q3 q5) (own_v0_166 q3 q5)) = own_U (own_v1_91 (own_v0_48 q1) (own_v0_56 q1) (own_v0_65 q2) (own_v0_73 q2) (own_v0_82 q3) (own_v0_124 q5) (own_v0_132 q5) (own_v0_141 q6) (own_v0_149 q6) (own_v0_158 q3 q5)) / 4294967296 + own_U q3 / 4294967296 + own_U (q5 ^^^ q3) / 4294967296 :=
    own_add3 (own_U_hi _) (own_U_hi q3) (own_U_hi (q5 ^^^ q3)) (by omega)
  obtain ⟨w20, w21, w2c⟩ := own_word b2 t4 t5 s2
  have c2 : own_U (own_v0_350 q1 q2 q3 q5 q6) = (own_U q3 + own_U (q5 ^^^ q3) + k2) / 18446744073709551616 := own_carry c1 b2 ly2 s2
  generalize hk3 : (own_U q3 + own_U (q5 ^^^ q3) + k2) / 18446744073709551616 = k3 at *
  have b3 : k3 ≤ 1 := by omega
  -- word 3
  have s3 : own_U (own_v0_360 q1 q2 q3 q4 q5 q6) = (own_U q4 + own_U (q6 ^^^ q4) + k3) % 18446744073709551616 := by
    rw [own_v0_360, own_U_add, own_U_add, c2]; omega
  have t6 : own_U (own_v1_135 (own_v0_48 q1) (own_v0_56 q1) (own_v0_65 q2) (own_v0_73 q2) (own_v0_82 q3) (own_v0_90 q3) (own_v0_100 q4) (own_v0_124 q5) (own_v0_132 q5) (own_v0_141 q6) (own_v0_149 q6) (own_v0_158 q3 q5) (own_v0_166 q3 q5) (own_v0_176 q4 q6)) = k3 + own_U q4 % 4294967296 + own_U (q6 ^^^ q4) % 4294967296 :=
    own_add3 w2c (own_U_lo q4) (own_U_lo (q6 ^^^ q4)) (by omega)
  have t7 : own_U (own_v1_159 (own_v0_48 q1) (own_v0_56 q1) (own_v0_65 q2) (own_v0_73 q2) (own_v0_82 q3) (own_v0_90 q3) (own_v0_100 q4) (own_v0_109 q4) (own_v0_124 q5) (own_v0_132 q5) (own_v0_141 q6) (own_v0_149 q6) (own_v0_158 q3 q5) (own_v0_166 q3 q5) (own_v0_176 q4 q6) (own_v0_185 q4 q6)) = own_U (own_v1_135 (own_v0_48 q1) (own_v0_56 q1) (own_v0_65 q2) (own_v0_73 q2) (own_v0_82 q3) (own_v0_90 q3) (own_v0_100 q4) (own_v0_124 q5) (own_v0_132 q5) (own_v0_141 q6) (own_v0_149 q6) (own_v0_158 q3 q5) (own_v0_166 q3 q5) (own_v0_176 q4 q6)) / 4294967296 + own_U q4 / 4294967296 + own_U (q6 ^^^ q4) / 4294967296 :=
    own_add3 (own_U_hi _) (own_U_hi q4) (own_U_hi (q6 ^^^ q4)) (by omega)
  obtain ⟨w30, w31, w3c⟩ := own_word b3 t6 t7 s3
  have c3 : own_U (own_v0_371 q1 q2 q3 q4 q5 q6) = (own_U q4 + own_U (q6 ^^^ q4) + k3) / 18446744073709551616 := own_carry c2 b3 ly3 s3
  have hc : own_v0_288 q1 q2 q3 q4 q5 q6 = own_v0_371 q1 q2 q3 q4 q5 q6 := own_U_inj (by rw [c3]; exact w3c)
  rw [own_F0]
  exact own_yes w00 (own_yes w01 (own_yes w10 (own_yes w11 (own_yes w20 (own_yes w21 (own_yes w30 (own_yes w31 (own_yes hc rfl))))))))
set_option maxRecDepth 65536 in
set_option maxHeartbeats 40000000 in
theorem own_comes {Post : Tables → Env → Array Value → State → Outcome → State → Prop} (hpost : ∀ tb e args s v u, (limb_1_1.after args s (.returned v) u = true ∧ limb_1_2.after args s (.returned v) u = true) → FrameEnd s (.returned v) u (Jvm.fieldLocs frame_1_writes args s ++ Jvm.arrayLocs frame_1_arrays args s ++ Jvm.staticLocs frame_1_statics s) 16 128 → Post tb e args s (.returned v) u) :
    ArmFor flags0 classFile x code maxLocals ret World_1 tables_1 room_1 Calls_1 rest_1 Pre_1 Post := by
  intro l hfl _ _ p e ha hc hk s m args below hf hA hF happ hP
  obtain ⟨hcalls, hrest, hpre⟩ := hP
  obtain ⟨-, -, -, hnamed, -, -, -, hat⟩ := (Spec.applies_iff hf).mp happ
  obtain ⟨hg, hn⟩ := and_e (Cond.before_iff.mp (show (Jvm.Cond.and given_1 narrow_1).before args s = true from hpre))
  obtain ⟨g1, g2⟩ := and_e hg
  obtain ⟨g3, g4⟩ := and_e g2
  obtain ⟨g5, g6⟩ := and_e g4
  obtain ⟨g7, g8⟩ := and_e g6
  obtain ⟨g9, g10⟩ := and_e g8
  obtain ⟨g11, g12⟩ := and_e g10
  obtain ⟨w0, w1, w2, w3, w4, w5, rfl⟩ : ∃ w0 w1 w2 w3 w4 w5 : Value, args = #[w0, w1, w2, w3, w4, w5] := by
    have hs : args.size = 6 := by simpa [Cond.value, given_1] using g1
    obtain ⟨L⟩ := args
    match L, hs with
    | [w0, w1, w2, w3, w4, w5], _ => exact ⟨w0, w1, w2, w3, w4, w5, rfl⟩
  have hw := fun d (hd : d ∈ tables_1) => atoms_spec (ws := Jvm.Cond.code x code maxLocals ret :: tables_1) hat d (List.mem_cons_of_mem _ hd)
  obtain ⟨i0, ei0⟩ := isL_v g3
  obtain rfl : w0 = (.long i0) := Option.some.inj ei0
  obtain ⟨i1, ei1⟩ := isL_v g5
  obtain rfl : w1 = (.long i1) := Option.some.inj ei1
  obtain ⟨i2, ei2⟩ := isL_v g7
  obtain rfl : w2 = (.long i2) := Option.some.inj ei2
  obtain ⟨i3, ei3⟩ := isL_v g9
  obtain rfl : w3 = (.long i3) := Option.some.inj ei3
  obtain ⟨i4, ei4⟩ := isL_v g11
  obtain rfl : w4 = (.long i4) := Option.some.inj ei4
  obtain ⟨i5, ei5⟩ := isL_v g12
  obtain rfl : w5 = (.long i5) := Option.some.inj ei5
  obtain ⟨n, o, h1, h2, h3, v, L, rfl, ⟨hq1, N, _⟩, hq⟩ := own_rm0 l s _ hw i0 i1 i2 i3 i4 i5 s.heap s.heap.size (Nat.le_refl _)  tables_1 p e ha hc hk s m _ below hf ((Spec.applies_iff_loose hf).mp happ).1 ⟨rfl, State.Warmed39.refl s, rfl⟩ trivial
  obtain rfl : v = some (.int 1) := by rw [hq1, own_plain i0 i1 i2 i3 i4 i5]
  exact ⟨n, _, h1, h2, h3, hpost _ _ _ _ _ _ ⟨Cond.after_iff.mpr rfl, Cond.after_iff.mpr (eq_i res_at (Term.int_eval (1)) rfl)⟩ ⟨hq.1, hq.2.1, (hq.2.2.sift fun y hy => Or.inr (N y hy)).mono (by decide) (by decide)⟩⟩
theorem main_1_1 : Claimed_1_1 := own_comes fun _ _ _ _ _ _ h hF => ⟨h.1, hF⟩
theorem main_1_2 : Claimed_1_2 := own_comes fun _ _ _ _ _ _ h hF => ⟨h.2, hF⟩
end Jvm.Pilot.@@N@@
namespace Jvm.Pilot.@@N@@
open Jvm Jvm.ClassFile Sem Op Lib Jvm.Free Jvm.Stand Jvm.Pilot.@@N@@.Jvm.D
/-! MADE BY PROGRAM (witnessworld.py) out of the Statement's table words and the real class files: 11 classes; the members and pool entries that the words name. The judged class is class 1, her method 3. -/
namespace start1
open Jvm.ClassFile
def u (s : String) : CpInfo := .utf8 (stringToUtf16 s)
/-- a pool by its gaps: so many unusable entries, then the entry; so many at the end -/
def gap : Nat → List CpInfo → List CpInfo
  | 0, r => r
  | n + 1, r => .unusable :: gap n r
def poolList (es : List (Nat × CpInfo)) (last : Nat) : List CpInfo := es.foldr (fun e r => gap e.1 (e.2 :: r)) (gap last [])
def pool (es : List (Nat × CpInfo)) (last : Nat) : Array CpInfo := ⟨poolList es last⟩
def fileOf (pool : Array CpInfo) (this : Nat) (attrs : Array Attribute := #[]) (ms : Array MethodInfo := #[]) (fl : Nat := 33) (sup : Nat := 0) (ifs : Array Nat := #[]) (fds : Array FieldInfo := #[]) : ClassFile where
  minorVersion := 0
  majorVersion := 65
  constantPool := pool
  accessFlags := fl
  thisClass := this
  superClass := sup
  interfaces := ifs
  fields := fds
  methods := ms
  attributes := attrs
def plain (name : String) (sup : Option ClassId) : Class where
  name := name
  kind := .ordinary
  loader := none
  accessFlags := 33
  super := sup
  interfaces := #[]
  cf := none
  fields := #[]
  methods := #[]
  instanceTypes := #[]
  staticTypes := #[]
  resolved := #[]
  callSites := []
  init := .initialized
  statics := none
  mirror := none

def pool0 : Array CpInfo := pool [(5, u "<init>"), (0, u "()V"), (1, .class_ 10), (1, u "java/lang/Object")] 113

def k0m0 : Method := { name := "<init>", desc := "()V", sig := { parameters := [], returnType := none }, accessFlags := 1, code := none }
/-- java/lang/Object -/
def k0 : Class := { plain "java/lang/Object" none with
  accessFlags := 33
  interfaces := #[]
  cf := some (fileOf pool0 8 #[] #[{ accessFlags := 1, nameIndex := 5, descriptorIndex := 6, attributes := #[] }] 33 0 #[] #[])
  fields := #[]
  methods := #[k0m0]
  instanceTypes := #[]
  staticTypes := #[]
  resolved := Array.replicate 124 none
  statics := none }

def pool1 : Array CpInfo := pool [(2, .class_ 4), (1, u "java/lang/Object"), (0, u "<init>"), (0, u "()V"), (0, .long 9223372036854775808), (1, .methodref 10 11), (0, .class_ 12), (0, .nameAndType 13 14), (0, u "marketmint/Words256AddPinLaw"), (0, u "below"), (0, u "(JJ)Z"), (0, .long 4294967295), (1, .long 81985529216486895), (1, .long 18446744073709551615), (1, .methodref 22 23), (0, .class_ 24), (0, .nameAndType 25 26), (0, u "marketmint/Words256"), (0, u "add"), (0, u "([J[J[J)J"), (0, .methodref 10 28), (0, .nameAndType 29 30), (0, u "carryOut"), (0, u "(JJJ)J"), (3, u "law"), (0, u "(JJJJJJ)Z")] 4

def k1m0 : Method := { name := "<init>", desc := "()V", sig := { parameters := [], returnType := none }, accessFlags := 2, code := none }
def k1c1 : Code := { maxStack := 6, maxLocals := 4, code := method_2_code, exceptionTable := #[], attributes := #[] }
def k1m1 : Method := { name := "below", desc := "(JJ)Z", sig := { parameters := [.long, .long], returnType := some .boolean }, accessFlags := 10, code := some k1c1 }
def k1c2 : Code := { maxStack := 4, maxLocals := 6, code := method_3_code, exceptionTable := #[], attributes := #[] }
def k1m2 : Method := { name := "carryOut", desc := "(JJJ)J", sig := { parameters := [.long, .long, .long], returnType := some .long }, accessFlags := 10, code := some k1c2 }
def k1c3 : Code := { maxStack := 7, maxLocals := 51, code := code, exceptionTable := #[], attributes := #[] }
def k1m3 : Method := { name := "law", desc := "(JJJJJJ)Z", sig := { parameters := [.long, .long, .long, .long, .long, .long], returnType := some .boolean }, accessFlags := 9, code := some k1c3 }
/-- marketmint/Words256AddPinLaw -/
def k1 : Class := { plain "marketmint/Words256AddPinLaw" (some 0) with
  accessFlags := 49
  interfaces := #[]
  cf := some (fileOf pool1 10 #[] #[{ accessFlags := 2, nameIndex := 5, descriptorIndex := 6, attributes := #[] }, { accessFlags := 10, nameIndex := 13, descriptorIndex := 14, attributes := #[] }, { accessFlags := 10, nameIndex := 29, descriptorIndex := 30, attributes := #[] }, { accessFlags := 9, nameIndex := 34, descriptorIndex := 35, attributes := #[] }] 49 2 #[] #[])
  fields := #[]
  methods := #[k1m0, k1m1, k1m2, k1m3]
  instanceTypes := #[]
  staticTypes := #[]
  resolved := Array.replicate 40 none
  statics := none }

def pool2 : Array CpInfo := pool [(2, .class_ 4), (1, u "java/lang/Object"), (0, u "<init>"), (0, u "()V"), (0, .class_ 8), (0, u "marketmint/Words256"), (0, .long 4294967295), (13, u "ABOVE"), (0, u "Ljava/math/BigInteger;"), (28, u "WORDS"), (0, u "I"), (2, u "WORD"), (0, u "J"), (2, u "add"), (0, u "([J[J[J)J")] 17

def k2m0 : Method := { name := "<init>", desc := "()V", sig := { parameters := [], returnType := none }, accessFlags := 2, code := none }
def k2c1 : Code := { maxStack := 6, maxLocals := 5, code := prog_96_method_2_code, exceptionTable := #[], attributes := #[] }
def k2m1 : Method := { name := "add", desc := "([J[J[J)J", sig := { parameters := [(.array .long), (.array .long), (.array .long)], returnType := some .long }, accessFlags := 8, code := some k2c1 }
/-- marketmint/Words256 -/
def k2 : Class := { plain "marketmint/Words256" (some 0) with
  accessFlags := 48
  interfaces := #[]
  cf := some (fileOf pool2 7 #[] #[{ accessFlags := 2, nameIndex := 5, descriptorIndex := 6, attributes := #[] }, { accessFlags := 8, nameIndex := 61, descriptorIndex := 62, attributes := #[] }] 48 2 #[] #[{ accessFlags := 24, nameIndex := 53, descriptorIndex := 54, attributes := #[] }, { accessFlags := 24, nameIndex := 57, descriptorIndex := 58, attributes := #[] }, { accessFlags := 26, nameIndex := 23, descriptorIndex := 24, attributes := #[] }])
  fields := #[{ name := "WORDS", type := .int, accessFlags := 24, slot := 0, constantValue := 0 }, { name := "WORD", type := .long, accessFlags := 24, slot := 1, constantValue := 0 }, { name := "ABOVE", type := (.object "java/math/BigInteger"), accessFlags := 26, slot := 2, constantValue := 0 }]
  methods := #[k2m0, k2m1]
  instanceTypes := #[]
  staticTypes := #[.int, .long, (.object "java/math/BigInteger")]
  resolved := Array.replicate 80 none
  statics := none }

def pool3 : Array CpInfo := pool [(1, u "java/lang/Cloneable"), (0, .class_ 1), (0, u "java/lang/Object"), (0, .class_ 3)] 3

/-- java/lang/Cloneable -/
def k3 : Class := { plain "java/lang/Cloneable" (some 0) with
  accessFlags := 1537
  interfaces := #[]
  cf := some (fileOf pool3 2 #[] #[] 1537 4 #[] #[])
  fields := #[]
  methods := #[]
  instanceTypes := #[]
  staticTypes := #[]
  resolved := Array.replicate 8 none
  statics := none }

def pool4 : Array CpInfo := pool [(1, u "java/io/Serializable"), (0, .class_ 1), (0, u "java/lang/Object"), (0, .class_ 3)] 3

/-- java/io/Serializable -/
def k4 : Class := { plain "java/io/Serializable" (some 0) with
  accessFlags := 1537
  interfaces := #[]
  cf := some (fileOf pool4 2 #[] #[] 1537 4 #[] #[])
  fields := #[]
  methods := #[]
  instanceTypes := #[]
  staticTypes := #[]
  resolved := Array.replicate 8 none
  statics := none }

/-- the primitive byte -/
def k5 : Class := { plain "byte" none with kind := .primitive 'B', accessFlags := 0x411 }
/-- [B -/
def k6 : Class := { plain "[B" (some 0) with kind := .array 5 .byte, interfaces := #[3, 4], accessFlags := 1041 }

/-- the primitive int -/
def k7 : Class := { plain "int" none with kind := .primitive 'I', accessFlags := 0x411 }
/-- [I -/
def k8 : Class := { plain "[I" (some 0) with kind := .array 7 .int, interfaces := #[3, 4], accessFlags := 1041 }

/-- the primitive long -/
def k9 : Class := { plain "long" none with kind := .primitive 'J', accessFlags := 0x411 }
/-- [J -/
def k10 : Class := { plain "[J" (some 0) with kind := .array 9 .long, interfaces := #[3, 4], accessFlags := 1041 }

def heap : Heap := #[]
def classes : Array Class := #[k0, k1, k2, k3, k4, k5, k6, k7, k8, k9, k10]
def interned : List (Array UInt16 × Addr) := []
def slotsUsed : Nat := 0
def theMethod : MethodId := ⟨1, 3⟩
def args0 : Array Value := #[.long 5, .long 6, .long 5, .long 6, .long 5, .long 6]
def aboutOver (below : List Frame) : State where
  vm := { classes := classes, interned := interned.toArray }
  heap := heap
  slotsUsed := slotsUsed
  threads := #[{ frames := .invoking theMethod args0 :: below }]
def below0 : List Frame := [.native { method := ⟨0, 0⟩, args := #[] }]
def about1 : State := aboutOver below0
def p0 : Program := .bare "" "" ""
def e0 : Env := launch0.env 0 0 0
theorem w_frames : about1.frames = Frame.invoking theMethod args0 :: below0 := rfl
set_option maxRecDepth 65536 in
theorem w_args : argsFit about1.vm theMethod args0 = true := by decide +kernel
set_option maxRecDepth 65536 in
theorem w_heap : heapFits about1 = true := by decide +kernel
set_option maxRecDepth 65536 in
theorem w_runnable : about1.curStatus? = some .runnable := by decide +kernel
set_option maxRecDepth 65536 in
theorem w_alone : about1.alone = true := by decide +kernel
set_option maxRecDepth 65536 in
theorem w_named : about1.methodNamed? x = some theMethod := by decide +kernel
set_option maxRecDepth 65536 in
theorem w_hears : about1.hears theMethod below0 = true := by decide +kernel
set_option maxRecDepth 65536 in
theorem w_ripe : about1.ripe theMethod args0 below0 = true := by decide +kernel
theorem w_running : about1.status = .running := rfl
set_option maxRecDepth 65536 in
theorem w_room : about1.hasRoom e0.platform room_1 = true :=
  launch0.hasRoom_least _ room_1 (by decide +kernel) (by decide +kernel) (by decide +kernel) (by decide +kernel) (by decide +kernel) (by decide +kernel)
theorem allAtoms_all (ts : List Jvm.Cond) (a : Array Jvm.Value) (st : Jvm.State) : (allAtoms ts).before a st = ts.all (fun c => c.before a st) := by
  induction ts with
  | nil => rfl
  | cons c t ih =>
    show (Jvm.Cond.and c (allAtoms t)).before a st = _
    rw [Jvm.Cond.before_and, ih, List.all_cons]
def words1 : List Jvm.Cond := Jvm.Cond.code x code maxLocals ret :: tables_1
/-- a 'code' word, met by the world's own term for the bytes: nothing is compared byte by byte -/
theorem code_word {y : MethodName} {bytes : ByteArray} {mx : Nat} {rt : Option FieldType} {a : Array Value} {s : State} {m : MethodId} {meth : Method} {c : Code} (h1 : s.methodNamed? y = some m) (h2 : s.vm.method? m = some meth) (h3 : meth.code = some c) (h4 : c.code = bytes)
    (h5 : (c.maxLocals == mx && c.exceptionTable.isEmpty && decide (c.maxStack ≤ mostOperands) && decide (meth.sig.returnType = rt) && !meth.locks && decide (parseMethodDescriptor y.desc = some meth.sig)) = true) : (Jvm.Cond.code y bytes mx rt).before a s = true := by
  simp only [Bool.and_eq_true, beq_iff_eq, Bool.not_eq_true', decide_eq_true_eq] at h5
  obtain ⟨⟨⟨⟨⟨g1, g2⟩, g3⟩, g4⟩, g5⟩, g6⟩ := h5
  simp [Cond.before, Cond.holds, Cond.value, h1, h2, h3, h4, g1, g2, g3, g4, g5, g6]
def isCode : Jvm.Cond → Bool
  | .code _ _ _ _ => true
  | _ => false
theorem all_split {L : List Jvm.Cond} {P : Jvm.Cond → Bool} (h1 : L.all (fun c => isCode c || P c) = true) (h2 : ∀ c ∈ L.filter isCode, P c = true) : L.all P = true := by
  refine List.all_eq_true.mpr fun c hc => ?_
  have h := List.all_eq_true.mp h1 c hc
  rcases Bool.eq_false_or_eq_true (isCode c) with hi | hi
  · exact h2 c (List.mem_filter.mpr ⟨hc, hi⟩)
  · simpa [hi] using h
set_option maxRecDepth 65536 in
theorem w_c0 : (Jvm.Cond.code x code maxLocals ret).before args0 about1 = true := code_word (m := ⟨1, 3⟩) (meth := k1m3) (c := k1c3) (by decide +kernel) rfl rfl rfl (by decide +kernel)
set_option maxRecDepth 65536 in
theorem w_c1 : (Jvm.Cond.code ({ cls := "marketmint/Words256", name := "add", desc := "([J[J[J)J" } : Jvm.MethodName) prog_96_method_2_code (5 : Nat) (Option.some Jvm.ClassFile.FieldType.long)).before args0 about1 = true := code_word (m := ⟨2, 1⟩) (meth := k2m1) (c := k2c1) (by decide +kernel) rfl rfl rfl (by decide +kernel)
set_option maxRecDepth 65536 in
theorem w_c2 : (Jvm.Cond.code ({ cls := "marketmint/Words256AddPinLaw", name := "carryOut", desc := "(JJJ)J" } : Jvm.MethodName) method_3_code (6 : Nat) (Option.some Jvm.ClassFile.FieldType.long)).before args0 about1 = true := code_word (m := ⟨1, 2⟩) (meth := k1m2) (c := k1c2) (by decide +kernel) rfl rfl rfl (by decide +kernel)
set_option maxRecDepth 65536 in
theorem w_c3 : (Jvm.Cond.code ({ cls := "marketmint/Words256AddPinLaw", name := "below", desc := "(JJ)Z" } : Jvm.MethodName) method_2_code (4 : Nat) (Option.some Jvm.ClassFile.FieldType.boolean)).before args0 about1 = true := code_word (m := ⟨1, 1⟩) (meth := k1m1) (c := k1c1) (by decide +kernel) rfl rfl rfl (by decide +kernel)
def codes1 : List Jvm.Cond := [Jvm.Cond.code x code maxLocals ret, Jvm.Cond.code ({ cls := "marketmint/Words256", name := "add", desc := "([J[J[J)J" } : Jvm.MethodName) prog_96_method_2_code (5 : Nat) (Option.some Jvm.ClassFile.FieldType.long), Jvm.Cond.code ({ cls := "marketmint/Words256AddPinLaw", name := "carryOut", desc := "(JJJ)J" } : Jvm.MethodName) method_3_code (6 : Nat) (Option.some Jvm.ClassFile.FieldType.long), Jvm.Cond.code ({ cls := "marketmint/Words256AddPinLaw", name := "below", desc := "(JJ)Z" } : Jvm.MethodName) method_2_code (4 : Nat) (Option.some Jvm.ClassFile.FieldType.boolean)]
set_option maxRecDepth 65536 in
theorem codes_eq : words1.filter isCode = codes1 := rfl
theorem w_codes : ∀ c ∈ words1.filter isCode, c.before args0 about1 = true := by
  rw [codes_eq]
  intro c hc
  simp only [codes1, List.mem_cons, List.not_mem_nil, or_false] at hc
  rcases hc with rfl | rfl | rfl | rfl
  · exact w_c0
  · exact w_c1
  · exact w_c2
  · exact w_c3
set_option maxRecDepth 65536 in
theorem w_t1 : words1.all (fun c => isCode c || c.before args0 about1) = true := by decide +kernel
theorem w_tables : (allAtoms (Jvm.Cond.code x code maxLocals ret :: tables_1)).before args0 about1 = true := by
  rw [allAtoms_all]
  show words1.all (fun c => c.before args0 about1) = true
  refine all_split ?_ w_codes
  rw [w_t1]
set_option maxRecDepth 65536 in
theorem w_case : (Jvm.Cond.and given_1 narrow_1).before args0 about1 = true := by decide +kernel
theorem w_applies : (headSpec (Jvm.Cond.code x code maxLocals ret :: tables_1) room_1).applies x e0.platform about1 = true :=
  (Spec.applies_iff w_frames).mpr ⟨w_running, w_runnable, w_alone, w_named, w_hears, w_ripe, w_room, w_tables⟩
theorem atStart : AtStart classFile x code maxLocals ret World_1 tables_1 room_1 Calls_1 rest_1 Pre_1 launch0 p0 e0 about1 theMethod args0 below0 :=
  ⟨lists_1, trivial, launch0.admits_env _ _ _, launch0.least_env, fairChoices_fair.cas, fairChoices_fair.clock, w_frames, w_args, w_heap, w_applies, trivial, trivial, w_case⟩
end start1
theorem witness_1 : WitnessClaimed_1 := ⟨start1.p0, start1.e0, start1.about1, start1.theMethod, start1.args0, start1.below0, start1.atStart⟩
end Jvm.Pilot.@@N@@

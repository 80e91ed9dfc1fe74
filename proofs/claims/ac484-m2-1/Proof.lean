import JvmDerived
import JvmDerived.Pilot.@@N@@Statement
import JvmDerived.Pilot.@@N@@Code
set_option linter.unusedVariables false
set_option linter.unusedSimpArgs false
namespace Jvm.Pilot.@@N@@
open Jvm Jvm.ClassFile Sem Op Lib Jvm.Free Jvm.Stand Jvm.LawKit Jvm.RoadKit Bundle Jvm.Pilot.@@N@@.Jvm.D
/-! own_: what is left of a walk, read forwards -/
def own_WP (p : Program) (e : Env) (below : List Frame) (s : State) (Q : Option Value → Heap → List Loc → Prop) (k n : Nat) (a : State) : Prop :=
  ∃ s₂ o, Steps p.tables e below a s₂ ∧ s₂.status = .running ∧ Ended s₂ below o ∧ ∃ v L, o = .returned v ∧ Q v s₂.heap L ∧ FrameEnd s o s₂ L k n
def own_Con (l : Launch) (Z : State) (y : MethodName) (bytes : ByteArray) (maxL : Nat) (ret : Option FieldType) (rm : Room) (as' : Array Value) (h0 : Heap) (Q : Option Value → Heap → List Loc → Prop) : Prop :=
  ∀ ws, MetFree l y (head1 (Jvm.Cond.code y bytes maxL ret :: ws) rm) (fun a U => a = as' ∧ Z.Warmed39 U.vm ∧ U.heap = h0) (fun _ _ _ _ _ => True) (fun _ U o U' => ∃ v L, o = .returned v ∧ Q v U'.heap L ∧ FrameEnd U o U' L rm.cells rm.slots)
theorem own_Con_of {l : Launch} {Z : State} {y : MethodName} {bytes : ByteArray} {maxL : Nat} {ret : Option FieldType} {rm : Room} {as' : Array Value} {h0 : Heap} {Q : Option Value → Heap → List Loc → Prop} (hp : plainFor y = true)
    (hb : ∀ (p : Program) (e : Env) (s : State) (m : MethodId) (below : List Frame) (meth : Method) (c : Code) (s₁ : State), Stand p l e rm s m as' below meth c s₁ [] 0 0 → p.tables.exec = Jvm.exec → c.code = bytes → c.maxLocals = maxL → meth.sig.returnType = ret → meth.locks = false → meth.name = y.name → s.vm.findClass y.cls = some m.cls → Z.Warmed39 s.vm → s₁.heap = h0 →
      own_WP p e below s Q rm.cells rm.slots (s₁.setTop (entryFrame m as' maxL))) : own_Con l Z y bytes maxL ret rm as' h0 Q := by
  intro ws
  refine MetFree.of_bodySF hp hisR ?_
  intro p e s m args below meth c s₁ Bd hml0 hP hK
  obtain ⟨rfl, hZ, hh⟩ := hP
  exact hb p e s m below meth c s₁ (Stand.of_body Bd) Bd.exec Bd.bytes hml0 Bd.returns Bd.notSynchronized (name_of_methodNamed Bd.named Bd.method).1 (findClass_of_methodNamed Bd.named) hZ (by rw [← hh, Bd.state]; rfl)
theorem own_Con_mono {l : Launch} {Z : State} {y : MethodName} {bytes : ByteArray} {maxL : Nat} {ret : Option FieldType} {rm : Room} {as' : Array Value} {h0 : Heap} {Q Q' : Option Value → Heap → List Loc → Prop} (C : own_Con l Z y bytes maxL ret rm as' h0 Q) (hq : ∀ v h L, Q v h L → Q' v h L) : own_Con l Z y bytes maxL ret rm as' h0 Q' := by
  intro ws p e ha hc hk s m args below hf happ hP hK
  obtain ⟨n, o, h1, h2, h3, v, L, h4, h5, h6⟩ := C ws p e ha hc hk s m args below hf happ hP hK
  exact ⟨n, o, h1, h2, h3, v, L, h4, hq _ _ _ h5, h6⟩
theorem own_w {Z : State} {a0 : Array Value} {ts : List Jvm.Cond} {d : Jvm.Cond} (hw : ∀ d ∈ ts, d.before a0 Z = true) (i : Nat) (hi : ts[i]? = some d) : d.before a0 Z = true := hw _ (List.mem_of_getElem? hi)
section OwnWP
variable {p : Program} {l : Launch} {e : Env} {R : Room} {s : State} {m : MethodId} {args : Array Value} {below : List Frame} {meth : Method} {c : Code} {T : State} {locs : List Loc} {cells slots : Nat} {Z : State} {a0 : Array Value} {h : Heap} {Q : Option Value → Heap → List Loc → Prop} {k n : Nat} {a a' : State} {pc pc' : Nat} {ls l' : Array Slot} {rest : List Value}
theorem own_of (hs : ∀ t, Steps p.tables e below a' t → Steps p.tables e below a t) (w : own_WP p e below s Q k n a') : own_WP p e below s Q k n a := by
  obtain ⟨s₂, o, st, r⟩ := w
  exact ⟨s₂, o, hs _ st, r⟩
theorem own_mono {Q' : Option Value → Heap → List Loc → Prop} (hq : ∀ v h L, Q v h L → Q' v h L) (w : own_WP p e below s Q k n a) : own_WP p e below s Q' k n a := by
  obtain ⟨s₂, o, h1, h2, h3, v, L, h4, h5, h6⟩ := w
  exact ⟨s₂, o, h1, h2, h3, v, L, h4, hq _ _ _ h5, h6⟩
theorem own_join {α : Type} (P : α → Prop) (f : α → State) (h1 : (∀ x, P x → own_WP p e below s Q k n (f x)) → own_WP p e below s Q k n a) (h2 : ∀ x, P x → own_WP p e below s Q k n (f x)) : own_WP p e below s Q k n a := h1 h2
theorem own_done (X : Stand p l e R s m args below meth c T locs cells slots) {v : Option Value} (hlk : meth.locks = false) (hv : meth.sig.returnType = none → v = none) (hc : cells ≤ k) (hn : slots ≤ n) (hq : Q v T.heap locs)
    (st : ∀ fs, (∀ (f : JFrame) (acts : List Action), f.method = m → f.locked = none → f.entered = [] → (doReturn e (T.setTop f) acts v).1 = T.setFrames fs) → Steps p.tables e below a (T.setFrames fs)) : own_WP p e below s Q k n a := by
  obtain ⟨fs, hr, hrun, hended, hW, hsame⟩ := X.leave hv hlk
  exact ⟨_, _, st fs hr, hrun, hended, _, _, rfl, hq, ⟨_, rfl⟩, hW, hsame.mono hc hn⟩
theorem own_retI (X : Stand p l e R s m args below meth c T locs cells slots) (hx : p.tables.exec = Jvm.exec) (hlk : meth.locks = false) (hret : meth.sig.returnType = some .int) {z : Int32} (hd : decode c.code pc = .ok (.ireturn, 1)) (hc : cells ≤ k) (hn : slots ≤ n) (hq : Q (some (.int z)) T.heap locs) : own_WP p e below s Q k n (T.setTop (mkF m pc ls (.int z :: rest))) :=
  own_done X hlk (fun q => by rw [hret] at q; cases q) hc hn hq fun fs hr => retOut X hx hret rfl (Or.inl ⟨rfl, Or.inl rfl, z, rfl⟩) hd hr
theorem own_retN (X : Stand p l e R s m args below meth c T locs cells slots) (hx : p.tables.exec = Jvm.exec) (hlk : meth.locks = false) {t : FieldType} (ht : t = .boolean ∨ t = .byte ∨ t = .char ∨ t = .short) (hret : meth.sig.returnType = some t) {z : Int32} (hd : decode c.code pc = .ok (.ireturn, 1)) (hc : cells ≤ k) (hn : slots ≤ n) (hq : Q (some (.int (nar t z))) T.heap locs) : own_WP p e below s Q k n (T.setTop (mkF m pc ls (.int z :: rest))) :=
  own_done X hlk (fun q => by rw [hret] at q; cases q) hc hn hq fun fs hr => retN X hx hret ht hd hr
theorem own_retJ (X : Stand p l e R s m args below meth c T locs cells slots) (hx : p.tables.exec = Jvm.exec) (hlk : meth.locks = false) (hret : meth.sig.returnType = some .long) {z : Int64} (hd : decode c.code pc = .ok (.lreturn, 1)) (hc : cells ≤ k) (hn : slots ≤ n) (hq : Q (some (.long z)) T.heap locs) : own_WP p e below s Q k n (T.setTop (mkF m pc ls (.long z :: rest))) :=
  own_done X hlk (fun q => by rw [hret] at q; cases q) hc hn hq fun fs hr => retOut X hx hret rfl (Or.inr (Or.inl ⟨rfl, rfl, z, rfl⟩)) hd hr
theorem own_retA (X : Stand p l e R s m args below meth c T locs cells slots) (hx : p.tables.exec = Jvm.exec) (hlk : meth.locks = false) {t : FieldType} (ht : t.isReference = true) (hret : meth.sig.returnType = some t) {w : Value} (hw : w.isRef = true) (hnw : narrow t w = w) (hd : decode c.code pc = .ok (.areturn, 1)) (hc : cells ≤ k) (hn : slots ≤ n) (hq : Q (some w) T.heap locs) : own_WP p e below s Q k n (T.setTop (mkF m pc ls (w :: rest))) :=
  own_done X hlk (fun q => by rw [hret] at q; cases q) hc hn hq fun fs hr => retOut X hx hret hnw (Or.inr (Or.inr (Or.inr (Or.inr ⟨rfl, ht, hw⟩)))) hd hr
theorem own_ret0 (X : Stand p l e R s m args below meth c T locs cells slots) (hx : p.tables.exec = Jvm.exec) (hlk : meth.locks = false) (hret : meth.sig.returnType = none) (hd : decode c.code pc = .ok (.return_, 1)) (hc : cells ≤ k) (hn : slots ≤ n) (hq : Q none T.heap locs) : own_WP p e below s Q k n (T.setTop (mkF m pc ls [])) :=
  own_done X hlk (fun _ => rfl) hc hn hq fun fs hr => X.returnOut hx hret hd hr
theorem own_iload (X : Stand p l e R s m args below meth c T locs cells slots) (hx : p.tables.exec = Jvm.exec) {j : Nat} {v : Int32} (hd : decode c.code pc = .ok (.iload j, 2)) (hl : ls[j]? = some (.val (.int v))) (hpc : pc + 2 = pc') (w : own_WP p e below s Q k n (T.setTop (mkF m pc' ls (.int v :: rest)))) : own_WP p e below s Q k n (T.setTop (mkF m pc ls rest)) := by
  subst hpc
  exact own_of (fun t q => XS.iload X.here hx rfl hd hl q) w
theorem own_iloadN (X : Stand p l e R s m args below meth c T locs cells slots) (hx : p.tables.exec = Jvm.exec) {j : Fin 4} {v : Int32} (hd : decode c.code pc = .ok (.iload_n j, 1)) (hl : ls[j.val]? = some (.val (.int v))) (hpc : pc + 1 = pc') (w : own_WP p e below s Q k n (T.setTop (mkF m pc' ls (.int v :: rest)))) : own_WP p e below s Q k n (T.setTop (mkF m pc ls rest)) := by
  subst hpc
  exact own_of (fun t q => XS.iloadN X.here hx rfl hd hl q) w
theorem own_lload (X : Stand p l e R s m args below meth c T locs cells slots) (hx : p.tables.exec = Jvm.exec) {j : Nat} {v : Int64} (hd : decode c.code pc = .ok (.lload j, 2)) (hl : ls[j]? = some (.val (.long v))) (hpc : pc + 2 = pc') (w : own_WP p e below s Q k n (T.setTop (mkF m pc' ls (.long v :: rest)))) : own_WP p e below s Q k n (T.setTop (mkF m pc ls rest)) := by
  subst hpc
  exact own_of (fun t q => XS.lload X.here hx rfl hd hl q) w
theorem own_lloadN (X : Stand p l e R s m args below meth c T locs cells slots) (hx : p.tables.exec = Jvm.exec) {j : Fin 4} {v : Int64} (hd : decode c.code pc = .ok (.lload_n j, 1)) (hl : ls[j.val]? = some (.val (.long v))) (hpc : pc + 1 = pc') (w : own_WP p e below s Q k n (T.setTop (mkF m pc' ls (.long v :: rest)))) : own_WP p e below s Q k n (T.setTop (mkF m pc ls rest)) := by
  subst hpc
  exact own_of (fun t q => XS.lloadN X.here hx rfl hd hl q) w
theorem own_aload (X : Stand p l e R s m args below meth c T locs cells slots) (hx : p.tables.exec = Jvm.exec) {j : Nat} {v : Value} (hd : decode c.code pc = .ok (.aload j, 2)) (hl : ls[j]? = some (.val v)) (hv : v.isRef = true) (hpc : pc + 2 = pc') (w : own_WP p e below s Q k n (T.setTop (mkF m pc' ls (v :: rest)))) : own_WP p e below s Q k n (T.setTop (mkF m pc ls rest)) := by
  subst hpc
  exact own_of (fun t q => XS.aload X.here hx rfl hd hl hv q) w
theorem own_aloadN (X : Stand p l e R s m args below meth c T locs cells slots) (hx : p.tables.exec = Jvm.exec) {j : Fin 4} {v : Value} (hd : decode c.code pc = .ok (.aload_n j, 1)) (hl : ls[j.val]? = some (.val v)) (hv : v.isRef = true) (hpc : pc + 1 = pc') (w : own_WP p e below s Q k n (T.setTop (mkF m pc' ls (v :: rest)))) : own_WP p e below s Q k n (T.setTop (mkF m pc ls rest)) := by
  subst hpc
  exact own_of (fun t q => XS.aloadN X.here hx rfl hd hl hv q) w
theorem own_istore (X : Stand p l e R s m args below meth c T locs cells slots) (hx : p.tables.exec = Jvm.exec) {j : Nat} {v z : Int32} (hd : decode c.code pc = .ok (.istore j, 2)) (hz : z = v) (hl : storeLocals ls j (.int z) = some l') (hpc : pc + 2 = pc') (w : own_WP p e below s Q k n (T.setTop (mkF m pc' l' rest))) : own_WP p e below s Q k n (T.setTop (mkF m pc ls (.int v :: rest))) := by
  subst hpc
  exact own_of (fun t q => XS.istore X.here hx rfl hd rfl (hz ▸ hl) q) w
theorem own_istoreN (X : Stand p l e R s m args below meth c T locs cells slots) (hx : p.tables.exec = Jvm.exec) {j : Fin 4} {v z : Int32} (hd : decode c.code pc = .ok (.istore_n j, 1)) (hz : z = v) (hl : storeLocals ls j.val (.int z) = some l') (hpc : pc + 1 = pc') (w : own_WP p e below s Q k n (T.setTop (mkF m pc' l' rest))) : own_WP p e below s Q k n (T.setTop (mkF m pc ls (.int v :: rest))) := by
  subst hpc
  exact own_of (fun t q => XS.istoreN X.here hx rfl hd rfl (hz ▸ hl) q) w
theorem own_lstore (X : Stand p l e R s m args below meth c T locs cells slots) (hx : p.tables.exec = Jvm.exec) {j : Nat} {v z : Int64} (hd : decode c.code pc = .ok (.lstore j, 2)) (hz : z = v) (hl : storeLocals ls j (.long z) = some l') (hpc : pc + 2 = pc') (w : own_WP p e below s Q k n (T.setTop (mkF m pc' l' rest))) : own_WP p e below s Q k n (T.setTop (mkF m pc ls (.long v :: rest))) := by
  subst hpc
  exact own_of (fun t q => XS.lstore X.here hx rfl hd rfl (hz ▸ hl) q) w
theorem own_lstoreN (X : Stand p l e R s m args below meth c T locs cells slots) (hx : p.tables.exec = Jvm.exec) {j : Fin 4} {v z : Int64} (hd : decode c.code pc = .ok (.lstore_n j, 1)) (hz : z = v) (hl : storeLocals ls j.val (.long z) = some l') (hpc : pc + 1 = pc') (w : own_WP p e below s Q k n (T.setTop (mkF m pc' l' rest))) : own_WP p e below s Q k n (T.setTop (mkF m pc ls (.long v :: rest))) := by
  subst hpc
  exact own_of (fun t q => XS.lstoreN X.here hx rfl hd rfl (hz ▸ hl) q) w
theorem own_astore (X : Stand p l e R s m args below meth c T locs cells slots) (hx : p.tables.exec = Jvm.exec) {j : Nat} {v : Value} (hd : decode c.code pc = .ok (.astore j, 2)) (hv : v.isRef = true) (hl : storeLocals ls j v = some l') (hpc : pc + 2 = pc') (w : own_WP p e below s Q k n (T.setTop (mkF m pc' l' rest))) : own_WP p e below s Q k n (T.setTop (mkF m pc ls (v :: rest))) := by
  subst hpc
  exact own_of (fun t q => XS.astore X.here hx rfl hd rfl hv hl q) w
theorem own_astoreN (X : Stand p l e R s m args below meth c T locs cells slots) (hx : p.tables.exec = Jvm.exec) {j : Fin 4} {v : Value} (hd : decode c.code pc = .ok (.astore_n j, 1)) (hv : v.isRef = true) (hl : storeLocals ls j.val v = some l') (hpc : pc + 1 = pc') (w : own_WP p e below s Q k n (T.setTop (mkF m pc' l' rest))) : own_WP p e below s Q k n (T.setTop (mkF m pc ls (v :: rest))) := by
  subst hpc
  exact own_of (fun t q => XS.astoreN X.here hx rfl hd rfl hv hl q) w
theorem own_iinc (X : Stand p l e R s m args below meth c T locs cells slots) (hx : p.tables.exec = Jvm.exec) {j : Nat} {i : Int} {v z : Int32} (hd : decode c.code pc = .ok (.iinc j i, 3)) (hl0 : ls[j]? = some (.val (.int v))) (hz : z = v + Int32.ofInt i) (hl : storeLocals ls j (.int z) = some l') (hpc : pc + 3 = pc') (w : own_WP p e below s Q k n (T.setTop (mkF m pc' l' rest))) : own_WP p e below s Q k n (T.setTop (mkF m pc ls rest)) := by
  subst hpc
  exact own_of (fun t q => XS.iinc X.here hx rfl hd hl0 (hz ▸ hl) q) w
theorem own_iconst (X : Stand p l e R s m args below meth c T locs cells slots) (hx : p.tables.exec = Jvm.exec) {i : Int} (v : Int32) (hd : decode c.code pc = .ok (.iconst i, 1)) (hv : v = Int32.ofInt i) (hpc : pc + 1 = pc') (w : own_WP p e below s Q k n (T.setTop (mkF m pc' ls (.int v :: rest)))) : own_WP p e below s Q k n (T.setTop (mkF m pc ls rest)) := by
  subst hpc
  exact own_of (fun t q => XS.iconst X.here hx rfl hd (hv ▸ q)) w
theorem own_bipush (X : Stand p l e R s m args below meth c T locs cells slots) (hx : p.tables.exec = Jvm.exec) {i : Int} (v : Int32) (hd : decode c.code pc = .ok (.bipush i, 2)) (hv : v = (Int8.ofInt i).toInt32) (hpc : pc + 2 = pc') (w : own_WP p e below s Q k n (T.setTop (mkF m pc' ls (.int v :: rest)))) : own_WP p e below s Q k n (T.setTop (mkF m pc ls rest)) := by
  subst hpc
  exact own_of (fun t q => XS.bipush X.here hx rfl hd (hv ▸ q)) w
theorem own_sipush (X : Stand p l e R s m args below meth c T locs cells slots) (hx : p.tables.exec = Jvm.exec) {i : Int} (v : Int32) (hd : decode c.code pc = .ok (.sipush i, 3)) (hv : v = (Int16.ofInt i).toInt32) (hpc : pc + 3 = pc') (w : own_WP p e below s Q k n (T.setTop (mkF m pc' ls (.int v :: rest)))) : own_WP p e below s Q k n (T.setTop (mkF m pc ls rest)) := by
  subst hpc
  exact own_of (fun t q => XS.sipush X.here hx rfl hd (hv ▸ q)) w
theorem own_anull (X : Stand p l e R s m args below meth c T locs cells slots) (hx : p.tables.exec = Jvm.exec)  (hd : decode c.code pc = .ok (.aconst_null, 1)) (hpc : pc + 1 = pc') (w : own_WP p e below s Q k n (T.setTop (mkF m pc' ls (.null :: rest)))) : own_WP p e below s Q k n (T.setTop (mkF m pc ls rest)) := by
  subst hpc
  exact own_of (fun t q => XS.aconstNull X.here hx rfl hd q) w
theorem own_lconst0 (X : Stand p l e R s m args below meth c T locs cells slots) (hx : p.tables.exec = Jvm.exec)  (hd : decode c.code pc = .ok (.lconst 0, 1)) (hpc : pc + 1 = pc') (w : own_WP p e below s Q k n (T.setTop (mkF m pc' ls (.long 0 :: rest)))) : own_WP p e below s Q k n (T.setTop (mkF m pc ls rest)) := by
  subst hpc
  exact own_of (fun t q => XS.lconst X.here hx rfl hd q) w
theorem own_lconst1 (X : Stand p l e R s m args below meth c T locs cells slots) (hx : p.tables.exec = Jvm.exec)  (hd : decode c.code pc = .ok (.lconst 1, 1)) (hpc : pc + 1 = pc') (w : own_WP p e below s Q k n (T.setTop (mkF m pc' ls (.long 1 :: rest)))) : own_WP p e below s Q k n (T.setTop (mkF m pc ls rest)) := by
  subst hpc
  exact own_of (fun t q => XS.lconst X.here hx rfl hd q) w
theorem own_ldcInt (X : Stand p l e R s m args below meth c T locs cells slots) (hx : p.tables.exec = Jvm.exec) (hZ : Z.Warmed39 s.vm) {own : String} {idx : Nat} {v : Int32} (hown : s.vm.findClass own = some m.cls) (w1 : (Jvm.Cond.constant own idx v).before a0 Z = true) (hd : decode c.code pc = .ok (.ldc idx, 2)) (hpc : pc + 2 = pc') (w : own_WP p e below s Q k n (T.setTop (mkF m pc' ls (.int v :: rest)))) : own_WP p e below s Q k n (T.setTop (mkF m pc ls rest)) := by
  subst hpc
  exact own_of (fun t q => X.ldcInt hx hown (mvT hZ w1) (g := mkF m pc ls rest) rfl hd _ q) w
theorem own_ldcwInt (X : Stand p l e R s m args below meth c T locs cells slots) (hx : p.tables.exec = Jvm.exec) (hZ : Z.Warmed39 s.vm) {own : String} {idx : Nat} {v : Int32} (hown : s.vm.findClass own = some m.cls) (w1 : (Jvm.Cond.constant own idx v).before a0 Z = true) (hd : decode c.code pc = .ok (.ldc_w idx, 3)) (hpc : pc + 3 = pc') (w : own_WP p e below s Q k n (T.setTop (mkF m pc' ls (.int v :: rest)))) : own_WP p e below s Q k n (T.setTop (mkF m pc ls rest)) := by
  subst hpc
  exact own_of (fun t q => X.ldcwInt hx hown (mvT hZ w1) (g := mkF m pc ls rest) rfl hd _ q) w
theorem own_ldc2Long (X : Stand p l e R s m args below meth c T locs cells slots) (hx : p.tables.exec = Jvm.exec) (hZ : Z.Warmed39 s.vm) {own : String} {idx : Nat} {v : Int64} (hown : s.vm.findClass own = some m.cls) (w1 : (Jvm.Cond.constantLong own idx v).before a0 Z = true) (hd : decode c.code pc = .ok (.ldc2_w idx, 3)) (hpc : pc + 3 = pc') (w : own_WP p e below s Q k n (T.setTop (mkF m pc' ls (.long v :: rest)))) : own_WP p e below s Q k n (T.setTop (mkF m pc ls rest)) := by
  subst hpc
  exact own_of (fun t q => X.ldc2Long hx hown (mvT hZ w1) (g := mkF m pc ls rest) rfl hd _ q) w
theorem own_iadd (X : Stand p l e R s m args below meth c T locs cells slots) (hx : p.tables.exec = Jvm.exec) {x y : Int32} (hd : decode c.code pc = .ok (.iadd, 1)) (hpc : pc + 1 = pc') (w : own_WP p e below s Q k n (T.setTop (mkF m pc' ls (.int (x + y) :: rest)))) : own_WP p e below s Q k n (T.setTop (mkF m pc ls (.int y :: .int x :: rest))) := by
  subst hpc
  exact own_of (fun t q => XS.iadd X.here hx rfl hd rfl q) w
theorem own_ladd (X : Stand p l e R s m args below meth c T locs cells slots) (hx : p.tables.exec = Jvm.exec) {x y : Int64} (hd : decode c.code pc = .ok (.ladd, 1)) (hpc : pc + 1 = pc') (w : own_WP p e below s Q k n (T.setTop (mkF m pc' ls (.long (x + y) :: rest)))) : own_WP p e below s Q k n (T.setTop (mkF m pc ls (.long y :: .long x :: rest))) := by
  subst hpc
  exact own_of (fun t q => XS.ladd X.here hx rfl hd rfl q) w
theorem own_isub (X : Stand p l e R s m args below meth c T locs cells slots) (hx : p.tables.exec = Jvm.exec) {x y : Int32} (hd : decode c.code pc = .ok (.isub, 1)) (hpc : pc + 1 = pc') (w : own_WP p e below s Q k n (T.setTop (mkF m pc' ls (.int (x - y) :: rest)))) : own_WP p e below s Q k n (T.setTop (mkF m pc ls (.int y :: .int x :: rest))) := by
  subst hpc
  exact own_of (fun t q => XS.isub X.here hx rfl hd rfl q) w
theorem own_lsub (X : Stand p l e R s m args below meth c T locs cells slots) (hx : p.tables.exec = Jvm.exec) {x y : Int64} (hd : decode c.code pc = .ok (.lsub, 1)) (hpc : pc + 1 = pc') (w : own_WP p e below s Q k n (T.setTop (mkF m pc' ls (.long (x - y) :: rest)))) : own_WP p e below s Q k n (T.setTop (mkF m pc ls (.long y :: .long x :: rest))) := by
  subst hpc
  exact own_of (fun t q => XS.lsub X.here hx rfl hd rfl q) w
theorem own_imul (X : Stand p l e R s m args below meth c T locs cells slots) (hx : p.tables.exec = Jvm.exec) {x y : Int32} (hd : decode c.code pc = .ok (.imul, 1)) (hpc : pc + 1 = pc') (w : own_WP p e below s Q k n (T.setTop (mkF m pc' ls (.int (x * y) :: rest)))) : own_WP p e below s Q k n (T.setTop (mkF m pc ls (.int y :: .int x :: rest))) := by
  subst hpc
  exact own_of (fun t q => XS.imul X.here hx rfl hd rfl q) w
theorem own_lmul (X : Stand p l e R s m args below meth c T locs cells slots) (hx : p.tables.exec = Jvm.exec) {x y : Int64} (hd : decode c.code pc = .ok (.lmul, 1)) (hpc : pc + 1 = pc') (w : own_WP p e below s Q k n (T.setTop (mkF m pc' ls (.long (x * y) :: rest)))) : own_WP p e below s Q k n (T.setTop (mkF m pc ls (.long y :: .long x :: rest))) := by
  subst hpc
  exact own_of (fun t q => XS.lmul X.here hx rfl hd rfl q) w
theorem own_iand (X : Stand p l e R s m args below meth c T locs cells slots) (hx : p.tables.exec = Jvm.exec) {x y : Int32} (hd : decode c.code pc = .ok (.iand, 1)) (hpc : pc + 1 = pc') (w : own_WP p e below s Q k n (T.setTop (mkF m pc' ls (.int (x &&& y) :: rest)))) : own_WP p e below s Q k n (T.setTop (mkF m pc ls (.int y :: .int x :: rest))) := by
  subst hpc
  exact own_of (fun t q => XS.iand X.here hx rfl hd rfl q) w
theorem own_land (X : Stand p l e R s m args below meth c T locs cells slots) (hx : p.tables.exec = Jvm.exec) {x y : Int64} (hd : decode c.code pc = .ok (.land, 1)) (hpc : pc + 1 = pc') (w : own_WP p e below s Q k n (T.setTop (mkF m pc' ls (.long (x &&& y) :: rest)))) : own_WP p e below s Q k n (T.setTop (mkF m pc ls (.long y :: .long x :: rest))) := by
  subst hpc
  exact own_of (fun t q => XS.land X.here hx rfl hd rfl q) w
theorem own_ior (X : Stand p l e R s m args below meth c T locs cells slots) (hx : p.tables.exec = Jvm.exec) {x y : Int32} (hd : decode c.code pc = .ok (.ior, 1)) (hpc : pc + 1 = pc') (w : own_WP p e below s Q k n (T.setTop (mkF m pc' ls (.int (x ||| y) :: rest)))) : own_WP p e below s Q k n (T.setTop (mkF m pc ls (.int y :: .int x :: rest))) := by
  subst hpc
  exact own_of (fun t q => XS.ior X.here hx rfl hd rfl q) w
theorem own_lor (X : Stand p l e R s m args below meth c T locs cells slots) (hx : p.tables.exec = Jvm.exec) {x y : Int64} (hd : decode c.code pc = .ok (.lor, 1)) (hpc : pc + 1 = pc') (w : own_WP p e below s Q k n (T.setTop (mkF m pc' ls (.long (x ||| y) :: rest)))) : own_WP p e below s Q k n (T.setTop (mkF m pc ls (.long y :: .long x :: rest))) := by
  subst hpc
  exact own_of (fun t q => XS.lor X.here hx rfl hd rfl q) w
theorem own_ixor (X : Stand p l e R s m args below meth c T locs cells slots) (hx : p.tables.exec = Jvm.exec) {x y : Int32} (hd : decode c.code pc = .ok (.ixor, 1)) (hpc : pc + 1 = pc') (w : own_WP p e below s Q k n (T.setTop (mkF m pc' ls (.int (x ^^^ y) :: rest)))) : own_WP p e below s Q k n (T.setTop (mkF m pc ls (.int y :: .int x :: rest))) := by
  subst hpc
  exact own_of (fun t q => XS.ixor X.here hx rfl hd rfl q) w
theorem own_lxor (X : Stand p l e R s m args below meth c T locs cells slots) (hx : p.tables.exec = Jvm.exec) {x y : Int64} (hd : decode c.code pc = .ok (.lxor, 1)) (hpc : pc + 1 = pc') (w : own_WP p e below s Q k n (T.setTop (mkF m pc' ls (.long (x ^^^ y) :: rest)))) : own_WP p e below s Q k n (T.setTop (mkF m pc ls (.long y :: .long x :: rest))) := by
  subst hpc
  exact own_of (fun t q => XS.lxor X.here hx rfl hd rfl q) w
theorem own_ishl (X : Stand p l e R s m args below meth c T locs cells slots) (hx : p.tables.exec = Jvm.exec) {x y : Int32} (hd : decode c.code pc = .ok (.ishl, 1)) (hpc : pc + 1 = pc') (w : own_WP p e below s Q k n (T.setTop (mkF m pc' ls (.int (x <<< (y &&& 31)) :: rest)))) : own_WP p e below s Q k n (T.setTop (mkF m pc ls (.int y :: .int x :: rest))) := by
  subst hpc
  exact own_of (fun t q => XS.ishl X.here hx rfl hd rfl q) w
theorem own_ishr (X : Stand p l e R s m args below meth c T locs cells slots) (hx : p.tables.exec = Jvm.exec) {x y : Int32} (hd : decode c.code pc = .ok (.ishr, 1)) (hpc : pc + 1 = pc') (w : own_WP p e below s Q k n (T.setTop (mkF m pc' ls (.int (x >>> (y &&& 31)) :: rest)))) : own_WP p e below s Q k n (T.setTop (mkF m pc ls (.int y :: .int x :: rest))) := by
  subst hpc
  exact own_of (fun t q => XS.ishr X.here hx rfl hd rfl q) w
theorem own_iushr (X : Stand p l e R s m args below meth c T locs cells slots) (hx : p.tables.exec = Jvm.exec) {x y : Int32} (hd : decode c.code pc = .ok (.iushr, 1)) (hpc : pc + 1 = pc') (w : own_WP p e below s Q k n (T.setTop (mkF m pc' ls (.int ((x.toUInt32 >>> (y &&& 31).toUInt32).toInt32) :: rest)))) : own_WP p e below s Q k n (T.setTop (mkF m pc ls (.int y :: .int x :: rest))) := by
  subst hpc
  exact own_of (fun t q => XS.iushr X.here hx rfl hd rfl q) w
theorem own_lshl (X : Stand p l e R s m args below meth c T locs cells slots) (hx : p.tables.exec = Jvm.exec) {x : Int64} {y : Int32} (hd : decode c.code pc = .ok (.lshl, 1)) (hpc : pc + 1 = pc') (w : own_WP p e below s Q k n (T.setTop (mkF m pc' ls (.long (x <<< (y &&& 0x3f).toInt64) :: rest)))) : own_WP p e below s Q k n (T.setTop (mkF m pc ls (.int y :: .long x :: rest))) := by
  subst hpc
  exact own_of (fun t q => XS.lshl X.here hx rfl hd rfl q) w
theorem own_lshr (X : Stand p l e R s m args below meth c T locs cells slots) (hx : p.tables.exec = Jvm.exec) {x : Int64} {y : Int32} (hd : decode c.code pc = .ok (.lshr, 1)) (hpc : pc + 1 = pc') (w : own_WP p e below s Q k n (T.setTop (mkF m pc' ls (.long (x >>> (y &&& 0x3f).toInt64) :: rest)))) : own_WP p e below s Q k n (T.setTop (mkF m pc ls (.int y :: .long x :: rest))) := by
  subst hpc
  exact own_of (fun t q => XS.lshr X.here hx rfl hd rfl q) w
theorem own_lushr (X : Stand p l e R s m args below meth c T locs cells slots) (hx : p.tables.exec = Jvm.exec) {x : Int64} {y : Int32} (hd : decode c.code pc = .ok (.lushr, 1)) (hpc : pc + 1 = pc') (w : own_WP p e below s Q k n (T.setTop (mkF m pc' ls (.long ((x.toUInt64 >>> (y &&& 0x3f).toInt64.toUInt64).toInt64) :: rest)))) : own_WP p e below s Q k n (T.setTop (mkF m pc ls (.int y :: .long x :: rest))) := by
  subst hpc
  exact own_of (fun t q => XS.lushr X.here hx rfl hd rfl q) w
theorem own_idiv (X : Stand p l e R s m args below meth c T locs cells slots) (hx : p.tables.exec = Jvm.exec) {x y : Int32} (hd : decode c.code pc = .ok (.idiv, 1)) (hy : y ≠ 0) (hpc : pc + 1 = pc') (w : own_WP p e below s Q k n (T.setTop (mkF m pc' ls (.int (x / y) :: rest)))) : own_WP p e below s Q k n (T.setTop (mkF m pc ls (.int y :: .int x :: rest))) := by
  subst hpc
  exact own_of (fun t q => XS.idiv X.here hx rfl hd rfl hy q) w
theorem own_irem (X : Stand p l e R s m args below meth c T locs cells slots) (hx : p.tables.exec = Jvm.exec) {x y : Int32} (hd : decode c.code pc = .ok (.irem, 1)) (hy : y ≠ 0) (hpc : pc + 1 = pc') (w : own_WP p e below s Q k n (T.setTop (mkF m pc' ls (.int (x % y) :: rest)))) : own_WP p e below s Q k n (T.setTop (mkF m pc ls (.int y :: .int x :: rest))) := by
  subst hpc
  exact own_of (fun t q => iremM X hx rfl hd rfl hy q) w
theorem own_ldiv (X : Stand p l e R s m args below meth c T locs cells slots) (hx : p.tables.exec = Jvm.exec) {x y : Int64} (hd : decode c.code pc = .ok (.ldiv, 1)) (hy : y ≠ 0) (hpc : pc + 1 = pc') (w : own_WP p e below s Q k n (T.setTop (mkF m pc' ls (.long (x / y) :: rest)))) : own_WP p e below s Q k n (T.setTop (mkF m pc ls (.long y :: .long x :: rest))) := by
  subst hpc
  exact own_of (fun t q => XS.ldiv X.here hx rfl hd rfl hy q) w
theorem own_lrem (X : Stand p l e R s m args below meth c T locs cells slots) (hx : p.tables.exec = Jvm.exec) {x y : Int64} (hd : decode c.code pc = .ok (.lrem, 1)) (hy : y ≠ 0) (hpc : pc + 1 = pc') (w : own_WP p e below s Q k n (T.setTop (mkF m pc' ls (.long (x % y) :: rest)))) : own_WP p e below s Q k n (T.setTop (mkF m pc ls (.long y :: .long x :: rest))) := by
  subst hpc
  exact own_of (fun t q => XS.lrem X.here hx rfl hd rfl hy ((lrem_mod x y).symm ▸ q)) w
theorem own_ineg (X : Stand p l e R s m args below meth c T locs cells slots) (hx : p.tables.exec = Jvm.exec) {x : Int32} (hd : decode c.code pc = .ok (.ineg, 1)) (hpc : pc + 1 = pc') (w : own_WP p e below s Q k n (T.setTop (mkF m pc' ls (.int (-x) :: rest)))) : own_WP p e below s Q k n (T.setTop (mkF m pc ls (.int x :: rest))) := by
  subst hpc
  exact own_of (fun t q => XS.ineg X.here hx rfl hd rfl q) w
theorem own_lneg (X : Stand p l e R s m args below meth c T locs cells slots) (hx : p.tables.exec = Jvm.exec) {x : Int64} (hd : decode c.code pc = .ok (.lneg, 1)) (hpc : pc + 1 = pc') (w : own_WP p e below s Q k n (T.setTop (mkF m pc' ls (.long (-x) :: rest)))) : own_WP p e below s Q k n (T.setTop (mkF m pc ls (.long x :: rest))) := by
  subst hpc
  exact own_of (fun t q => XS.lneg X.here hx rfl hd rfl q) w
theorem own_i2l (X : Stand p l e R s m args below meth c T locs cells slots) (hx : p.tables.exec = Jvm.exec) {x : Int32} (hd : decode c.code pc = .ok (.i2l, 1)) (hpc : pc + 1 = pc') (w : own_WP p e below s Q k n (T.setTop (mkF m pc' ls (.long (x.toInt64) :: rest)))) : own_WP p e below s Q k n (T.setTop (mkF m pc ls (.int x :: rest))) := by
  subst hpc
  exact own_of (fun t q => XS.i2l X.here hx rfl hd rfl q) w
theorem own_l2i (X : Stand p l e R s m args below meth c T locs cells slots) (hx : p.tables.exec = Jvm.exec) {x : Int64} (hd : decode c.code pc = .ok (.l2i, 1)) (hpc : pc + 1 = pc') (w : own_WP p e below s Q k n (T.setTop (mkF m pc' ls (.int (x.toInt32) :: rest)))) : own_WP p e below s Q k n (T.setTop (mkF m pc ls (.long x :: rest))) := by
  subst hpc
  exact own_of (fun t q => XS.l2i X.here hx rfl hd rfl q) w
theorem own_i2b (X : Stand p l e R s m args below meth c T locs cells slots) (hx : p.tables.exec = Jvm.exec) {x : Int32} (hd : decode c.code pc = .ok (.i2b, 1)) (hpc : pc + 1 = pc') (w : own_WP p e below s Q k n (T.setTop (mkF m pc' ls (.int (x.toInt8.toInt32) :: rest)))) : own_WP p e below s Q k n (T.setTop (mkF m pc ls (.int x :: rest))) := by
  subst hpc
  exact own_of (fun t q => XS.i2b X.here hx rfl hd rfl q) w
theorem own_i2s (X : Stand p l e R s m args below meth c T locs cells slots) (hx : p.tables.exec = Jvm.exec) {x : Int32} (hd : decode c.code pc = .ok (.i2s, 1)) (hpc : pc + 1 = pc') (w : own_WP p e below s Q k n (T.setTop (mkF m pc' ls (.int (x.toInt16.toInt32) :: rest)))) : own_WP p e below s Q k n (T.setTop (mkF m pc ls (.int x :: rest))) := by
  subst hpc
  exact own_of (fun t q => XS.i2s X.here hx rfl hd rfl q) w
theorem own_i2c (X : Stand p l e R s m args below meth c T locs cells slots) (hx : p.tables.exec = Jvm.exec) {x : Int32} (hd : decode c.code pc = .ok (.i2c, 1)) (hpc : pc + 1 = pc') (w : own_WP p e below s Q k n (T.setTop (mkF m pc' ls (.int (x.toUInt32.toUInt16.toUInt32.toInt32) :: rest)))) : own_WP p e below s Q k n (T.setTop (mkF m pc ls (.int x :: rest))) := by
  subst hpc
  exact own_of (fun t q => XS.i2c X.here hx rfl hd rfl q) w
theorem own_lcmp (X : Stand p l e R s m args below meth c T locs cells slots) (hx : p.tables.exec = Jvm.exec) {x y : Int64} (hd : decode c.code pc = .ok (.lcmp, 1)) (hpc : pc + 1 = pc') (w : own_WP p e below s Q k n (T.setTop (mkF m pc' ls (.int (lcmpW x y) :: rest)))) : own_WP p e below s Q k n (T.setTop (mkF m pc ls (.long y :: .long x :: rest))) := by
  subst hpc
  exact own_of (fun t q => XS.lcmp X.here hx rfl hd rfl q) w
theorem own_dup (X : Stand p l e R s m args below meth c T locs cells slots) (hx : p.tables.exec = Jvm.exec) {v : Value} (hd : decode c.code pc = .ok (.dup, 1)) (hv : v.category = 1) (hpc : pc + 1 = pc') (w : own_WP p e below s Q k n (T.setTop (mkF m pc' ls (v :: v :: rest)))) : own_WP p e below s Q k n (T.setTop (mkF m pc ls (v :: rest))) := by
  subst hpc
  exact own_of (fun t q => XS.dup X.here hx rfl hd rfl hv q) w
theorem own_pop (X : Stand p l e R s m args below meth c T locs cells slots) (hx : p.tables.exec = Jvm.exec) {v : Value} (hd : decode c.code pc = .ok (.pop, 1)) (hv : v.category = 1) (hpc : pc + 1 = pc') (w : own_WP p e below s Q k n (T.setTop (mkF m pc' ls rest))) : own_WP p e below s Q k n (T.setTop (mkF m pc ls (v :: rest))) := by
  subst hpc
  exact own_of (fun t q => XS.pop X.here hx rfl hd rfl hv q) w
theorem own_dup2 (X : Stand p l e R s m args below meth c T locs cells slots) (hx : p.tables.exec = Jvm.exec) {v1 v2 : Value} (hd : decode c.code pc = .ok (.dup2, 1)) (h1 : v1.category = 1) (h2 : v2.category = 1) (hpc : pc + 1 = pc') (w : own_WP p e below s Q k n (T.setTop (mkF m pc' ls (v1 :: v2 :: v1 :: v2 :: rest)))) : own_WP p e below s Q k n (T.setTop (mkF m pc ls (v1 :: v2 :: rest))) := by
  subst hpc
  refine own_of (fun t q => ?_) w
  jvm_step X.here [X.here.top, hx, hd, h1, h2]
  exact q
theorem own_goto (X : Stand p l e R s m args below meth c T locs cells slots) (hx : p.tables.exec = Jvm.exec) {o : Int} (hd : decode c.code pc = .ok (.goto o, 3)) (ho : 0 ≤ (pc : Int) + o) (hpc : ((pc : Int) + o).toNat = pc') (w : own_WP p e below s Q k n (T.setTop (mkF m pc' ls rest))) : own_WP p e below s Q k n (T.setTop (mkF m pc ls rest)) :=
  own_of (fun t q => XS.goto X.here hx rfl (pc0 := pc) (pc' := pc') rfl hd ho hpc q) w
theorem own_icmp_lt (X : Stand p l e R s m args below meth c T locs cells slots) (hx : p.tables.exec = Jvm.exec) {x y : Int32} {o : Int} {pf pt : Nat} (hd : decode c.code pc = .ok (.if_icmp .lt o, 3)) (hpf : pc + 3 = pf) (ho : 0 ≤ (pc : Int) + o) (hpt : ((pc : Int) + o).toNat = pt)
    (yes : x < y → own_WP p e below s Q k n (T.setTop (mkF m pt ls rest))) (no : ¬ x < y → own_WP p e below s Q k n (T.setTop (mkF m pf ls rest))) : own_WP p e below s Q k n (T.setTop (mkF m pc ls (.int y :: .int x :: rest))) := by
  subst hpf
  by_cases hq : x < y
  · exact own_of (fun t q => XS.icmpYes X.here hx rfl (pc0 := pc) (pc' := pt) rfl hd rfl ((tlt hq).1) ho hpt q) (yes hq)
  · exact own_of (fun t q => XS.icmpNo X.here hx rfl hd rfl ((flt hq).1) q) (no hq)
theorem own_if_lt (X : Stand p l e R s m args below meth c T locs cells slots) (hx : p.tables.exec = Jvm.exec) {x : Int32} {o : Int} {pf pt : Nat} (hd : decode c.code pc = .ok (.ifCond .lt o, 3)) (hpf : pc + 3 = pf) (ho : 0 ≤ (pc : Int) + o) (hpt : ((pc : Int) + o).toNat = pt)
    (yes : x < 0 → own_WP p e below s Q k n (T.setTop (mkF m pt ls rest))) (no : ¬ x < 0 → own_WP p e below s Q k n (T.setTop (mkF m pf ls rest))) : own_WP p e below s Q k n (T.setTop (mkF m pc ls (.int x :: rest))) := by
  subst hpf
  by_cases hq : x < 0
  · exact own_of (fun t q => XS.ifYes X.here hx rfl (pc0 := pc) (pc' := pt) rfl hd rfl ((if0 _ _).trans (tlt hq).1) ho hpt q) (yes hq)
  · exact own_of (fun t q => XS.ifNo X.here hx rfl hd rfl ((if0 _ _).trans (flt hq).1) q) (no hq)
theorem own_ifl_lt (X : Stand p l e R s m args below meth c T locs cells slots) (hx : p.tables.exec = Jvm.exec) {x y : Int64} {o : Int} {pf pt : Nat} (hd : decode c.code pc = .ok (.ifCond .lt o, 3)) (hpf : pc + 3 = pf) (ho : 0 ≤ (pc : Int) + o) (hpt : ((pc : Int) + o).toNat = pt)
    (yes : x < y → own_WP p e below s Q k n (T.setTop (mkF m pt ls rest))) (no : ¬ x < y → own_WP p e below s Q k n (T.setTop (mkF m pf ls rest))) : own_WP p e below s Q k n (T.setTop (mkF m pc ls (.int (lcmpW x y) :: rest))) := by
  subst hpf
  by_cases hq : x < y
  · exact own_of (fun t q => XS.ifYes X.here hx rfl (pc0 := pc) (pc' := pt) rfl hd rfl ((if0 _ _).trans (tlt ((lw_lt x y).mpr hq)).1) ho hpt q) (yes hq)
  · exact own_of (fun t q => XS.ifNo X.here hx rfl hd rfl ((if0 _ _).trans (flt (fun z => hq ((lw_lt x y).mp z))).1) q) (no hq)
theorem own_icmp_ge (X : Stand p l e R s m args below meth c T locs cells slots) (hx : p.tables.exec = Jvm.exec) {x y : Int32} {o : Int} {pf pt : Nat} (hd : decode c.code pc = .ok (.if_icmp .ge o, 3)) (hpf : pc + 3 = pf) (ho : 0 ≤ (pc : Int) + o) (hpt : ((pc : Int) + o).toNat = pt)
    (yes : ¬ x < y → own_WP p e below s Q k n (T.setTop (mkF m pt ls rest))) (no : x < y → own_WP p e below s Q k n (T.setTop (mkF m pf ls rest))) : own_WP p e below s Q k n (T.setTop (mkF m pc ls (.int y :: .int x :: rest))) := by
  subst hpf
  by_cases hq : ¬ x < y
  · exact own_of (fun t q => XS.icmpYes X.here hx rfl (pc0 := pc) (pc' := pt) rfl hd rfl ((flt hq).2.1) ho hpt q) (yes hq)
  · exact own_of (fun t q => XS.icmpNo X.here hx rfl hd rfl ((tlt (Classical.not_not.mp hq)).2.1) q) (no (Classical.not_not.mp hq))
theorem own_if_ge (X : Stand p l e R s m args below meth c T locs cells slots) (hx : p.tables.exec = Jvm.exec) {x : Int32} {o : Int} {pf pt : Nat} (hd : decode c.code pc = .ok (.ifCond .ge o, 3)) (hpf : pc + 3 = pf) (ho : 0 ≤ (pc : Int) + o) (hpt : ((pc : Int) + o).toNat = pt)
    (yes : ¬ x < 0 → own_WP p e below s Q k n (T.setTop (mkF m pt ls rest))) (no : x < 0 → own_WP p e below s Q k n (T.setTop (mkF m pf ls rest))) : own_WP p e below s Q k n (T.setTop (mkF m pc ls (.int x :: rest))) := by
  subst hpf
  by_cases hq : ¬ x < 0
  · exact own_of (fun t q => XS.ifYes X.here hx rfl (pc0 := pc) (pc' := pt) rfl hd rfl ((if0 _ _).trans (flt hq).2.1) ho hpt q) (yes hq)
  · exact own_of (fun t q => XS.ifNo X.here hx rfl hd rfl ((if0 _ _).trans (tlt (Classical.not_not.mp hq)).2.1) q) (no (Classical.not_not.mp hq))
theorem own_ifl_ge (X : Stand p l e R s m args below meth c T locs cells slots) (hx : p.tables.exec = Jvm.exec) {x y : Int64} {o : Int} {pf pt : Nat} (hd : decode c.code pc = .ok (.ifCond .ge o, 3)) (hpf : pc + 3 = pf) (ho : 0 ≤ (pc : Int) + o) (hpt : ((pc : Int) + o).toNat = pt)
    (yes : ¬ x < y → own_WP p e below s Q k n (T.setTop (mkF m pt ls rest))) (no : x < y → own_WP p e below s Q k n (T.setTop (mkF m pf ls rest))) : own_WP p e below s Q k n (T.setTop (mkF m pc ls (.int (lcmpW x y) :: rest))) := by
  subst hpf
  by_cases hq : ¬ x < y
  · exact own_of (fun t q => XS.ifYes X.here hx rfl (pc0 := pc) (pc' := pt) rfl hd rfl ((if0 _ _).trans (flt (fun z => hq ((lw_lt x y).mp z))).2.1) ho hpt q) (yes hq)
  · exact own_of (fun t q => XS.ifNo X.here hx rfl hd rfl ((if0 _ _).trans (tlt ((lw_lt x y).mpr (Classical.not_not.mp hq))).2.1) q) (no (Classical.not_not.mp hq))
theorem own_icmp_gt (X : Stand p l e R s m args below meth c T locs cells slots) (hx : p.tables.exec = Jvm.exec) {x y : Int32} {o : Int} {pf pt : Nat} (hd : decode c.code pc = .ok (.if_icmp .gt o, 3)) (hpf : pc + 3 = pf) (ho : 0 ≤ (pc : Int) + o) (hpt : ((pc : Int) + o).toNat = pt)
    (yes : y < x → own_WP p e below s Q k n (T.setTop (mkF m pt ls rest))) (no : ¬ y < x → own_WP p e below s Q k n (T.setTop (mkF m pf ls rest))) : own_WP p e below s Q k n (T.setTop (mkF m pc ls (.int y :: .int x :: rest))) := by
  subst hpf
  by_cases hq : y < x
  · exact own_of (fun t q => XS.icmpYes X.here hx rfl (pc0 := pc) (pc' := pt) rfl hd rfl ((tlt hq).2.2.1) ho hpt q) (yes hq)
  · exact own_of (fun t q => XS.icmpNo X.here hx rfl hd rfl ((flt hq).2.2.1) q) (no hq)
theorem own_if_gt (X : Stand p l e R s m args below meth c T locs cells slots) (hx : p.tables.exec = Jvm.exec) {x : Int32} {o : Int} {pf pt : Nat} (hd : decode c.code pc = .ok (.ifCond .gt o, 3)) (hpf : pc + 3 = pf) (ho : 0 ≤ (pc : Int) + o) (hpt : ((pc : Int) + o).toNat = pt)
    (yes : 0 < x → own_WP p e below s Q k n (T.setTop (mkF m pt ls rest))) (no : ¬ 0 < x → own_WP p e below s Q k n (T.setTop (mkF m pf ls rest))) : own_WP p e below s Q k n (T.setTop (mkF m pc ls (.int x :: rest))) := by
  subst hpf
  by_cases hq : 0 < x
  · exact own_of (fun t q => XS.ifYes X.here hx rfl (pc0 := pc) (pc' := pt) rfl hd rfl ((if0 _ _).trans (tlt hq).2.2.1) ho hpt q) (yes hq)
  · exact own_of (fun t q => XS.ifNo X.here hx rfl hd rfl ((if0 _ _).trans (flt hq).2.2.1) q) (no hq)
theorem own_ifl_gt (X : Stand p l e R s m args below meth c T locs cells slots) (hx : p.tables.exec = Jvm.exec) {x y : Int64} {o : Int} {pf pt : Nat} (hd : decode c.code pc = .ok (.ifCond .gt o, 3)) (hpf : pc + 3 = pf) (ho : 0 ≤ (pc : Int) + o) (hpt : ((pc : Int) + o).toNat = pt)
    (yes : y < x → own_WP p e below s Q k n (T.setTop (mkF m pt ls rest))) (no : ¬ y < x → own_WP p e below s Q k n (T.setTop (mkF m pf ls rest))) : own_WP p e below s Q k n (T.setTop (mkF m pc ls (.int (lcmpW x y) :: rest))) := by
  subst hpf
  by_cases hq : y < x
  · exact own_of (fun t q => XS.ifYes X.here hx rfl (pc0 := pc) (pc' := pt) rfl hd rfl ((if0 _ _).trans (tlt ((lw_gt x y).mpr hq)).2.2.1) ho hpt q) (yes hq)
  · exact own_of (fun t q => XS.ifNo X.here hx rfl hd rfl ((if0 _ _).trans (flt (fun z => hq ((lw_gt x y).mp z))).2.2.1) q) (no hq)
theorem own_icmp_le (X : Stand p l e R s m args below meth c T locs cells slots) (hx : p.tables.exec = Jvm.exec) {x y : Int32} {o : Int} {pf pt : Nat} (hd : decode c.code pc = .ok (.if_icmp .le o, 3)) (hpf : pc + 3 = pf) (ho : 0 ≤ (pc : Int) + o) (hpt : ((pc : Int) + o).toNat = pt)
    (yes : ¬ y < x → own_WP p e below s Q k n (T.setTop (mkF m pt ls rest))) (no : y < x → own_WP p e below s Q k n (T.setTop (mkF m pf ls rest))) : own_WP p e below s Q k n (T.setTop (mkF m pc ls (.int y :: .int x :: rest))) := by
  subst hpf
  by_cases hq : ¬ y < x
  · exact own_of (fun t q => XS.icmpYes X.here hx rfl (pc0 := pc) (pc' := pt) rfl hd rfl ((flt hq).2.2.2) ho hpt q) (yes hq)
  · exact own_of (fun t q => XS.icmpNo X.here hx rfl hd rfl ((tlt (Classical.not_not.mp hq)).2.2.2) q) (no (Classical.not_not.mp hq))
theorem own_if_le (X : Stand p l e R s m args below meth c T locs cells slots) (hx : p.tables.exec = Jvm.exec) {x : Int32} {o : Int} {pf pt : Nat} (hd : decode c.code pc = .ok (.ifCond .le o, 3)) (hpf : pc + 3 = pf) (ho : 0 ≤ (pc : Int) + o) (hpt : ((pc : Int) + o).toNat = pt)
    (yes : ¬ 0 < x → own_WP p e below s Q k n (T.setTop (mkF m pt ls rest))) (no : 0 < x → own_WP p e below s Q k n (T.setTop (mkF m pf ls rest))) : own_WP p e below s Q k n (T.setTop (mkF m pc ls (.int x :: rest))) := by
  subst hpf
  by_cases hq : ¬ 0 < x
  · exact own_of (fun t q => XS.ifYes X.here hx rfl (pc0 := pc) (pc' := pt) rfl hd rfl ((if0 _ _).trans (flt hq).2.2.2) ho hpt q) (yes hq)
  · exact own_of (fun t q => XS.ifNo X.here hx rfl hd rfl ((if0 _ _).trans (tlt (Classical.not_not.mp hq)).2.2.2) q) (no (Classical.not_not.mp hq))
theorem own_ifl_le (X : Stand p l e R s m args below meth c T locs cells slots) (hx : p.tables.exec = Jvm.exec) {x y : Int64} {o : Int} {pf pt : Nat} (hd : decode c.code pc = .ok (.ifCond .le o, 3)) (hpf : pc + 3 = pf) (ho : 0 ≤ (pc : Int) + o) (hpt : ((pc : Int) + o).toNat = pt)
    (yes : ¬ y < x → own_WP p e below s Q k n (T.setTop (mkF m pt ls rest))) (no : y < x → own_WP p e below s Q k n (T.setTop (mkF m pf ls rest))) : own_WP p e below s Q k n (T.setTop (mkF m pc ls (.int (lcmpW x y) :: rest))) := by
  subst hpf
  by_cases hq : ¬ y < x
  · exact own_of (fun t q => XS.ifYes X.here hx rfl (pc0 := pc) (pc' := pt) rfl hd rfl ((if0 _ _).trans (flt (fun z => hq ((lw_gt x y).mp z))).2.2.2) ho hpt q) (yes hq)
  · exact own_of (fun t q => XS.ifNo X.here hx rfl hd rfl ((if0 _ _).trans (tlt ((lw_gt x y).mpr (Classical.not_not.mp hq))).2.2.2) q) (no (Classical.not_not.mp hq))
theorem own_icmp_eq (X : Stand p l e R s m args below meth c T locs cells slots) (hx : p.tables.exec = Jvm.exec) {x y : Int32} {o : Int} {pf pt : Nat} (hd : decode c.code pc = .ok (.if_icmp .eq o, 3)) (hpf : pc + 3 = pf) (ho : 0 ≤ (pc : Int) + o) (hpt : ((pc : Int) + o).toNat = pt)
    (yes : x = y → own_WP p e below s Q k n (T.setTop (mkF m pt ls rest))) (no : ¬ x = y → own_WP p e below s Q k n (T.setTop (mkF m pf ls rest))) : own_WP p e below s Q k n (T.setTop (mkF m pc ls (.int y :: .int x :: rest))) := by
  subst hpf
  by_cases hq : x = y
  · exact own_of (fun t q => XS.icmpYes X.here hx rfl (pc0 := pc) (pc' := pt) rfl hd rfl ((teq hq).1) ho hpt q) (yes hq)
  · exact own_of (fun t q => XS.icmpNo X.here hx rfl hd rfl ((feq hq).1) q) (no hq)
theorem own_if_eq (X : Stand p l e R s m args below meth c T locs cells slots) (hx : p.tables.exec = Jvm.exec) {x : Int32} {o : Int} {pf pt : Nat} (hd : decode c.code pc = .ok (.ifCond .eq o, 3)) (hpf : pc + 3 = pf) (ho : 0 ≤ (pc : Int) + o) (hpt : ((pc : Int) + o).toNat = pt)
    (yes : x = 0 → own_WP p e below s Q k n (T.setTop (mkF m pt ls rest))) (no : ¬ x = 0 → own_WP p e below s Q k n (T.setTop (mkF m pf ls rest))) : own_WP p e below s Q k n (T.setTop (mkF m pc ls (.int x :: rest))) := by
  subst hpf
  by_cases hq : x = 0
  · exact own_of (fun t q => XS.ifYes X.here hx rfl (pc0 := pc) (pc' := pt) rfl hd rfl ((if0 _ _).trans (teq hq).1) ho hpt q) (yes hq)
  · exact own_of (fun t q => XS.ifNo X.here hx rfl hd rfl ((if0 _ _).trans (feq hq).1) q) (no hq)
theorem own_ifl_eq (X : Stand p l e R s m args below meth c T locs cells slots) (hx : p.tables.exec = Jvm.exec) {x y : Int64} {o : Int} {pf pt : Nat} (hd : decode c.code pc = .ok (.ifCond .eq o, 3)) (hpf : pc + 3 = pf) (ho : 0 ≤ (pc : Int) + o) (hpt : ((pc : Int) + o).toNat = pt)
    (yes : x = y → own_WP p e below s Q k n (T.setTop (mkF m pt ls rest))) (no : ¬ x = y → own_WP p e below s Q k n (T.setTop (mkF m pf ls rest))) : own_WP p e below s Q k n (T.setTop (mkF m pc ls (.int (lcmpW x y) :: rest))) := by
  subst hpf
  by_cases hq : x = y
  · exact own_of (fun t q => XS.ifYes X.here hx rfl (pc0 := pc) (pc' := pt) rfl hd rfl ((if0 _ _).trans (teq ((lw_eq x y).mpr hq)).1) ho hpt q) (yes hq)
  · exact own_of (fun t q => XS.ifNo X.here hx rfl hd rfl ((if0 _ _).trans (feq (fun z => hq ((lw_eq x y).mp z))).1) q) (no hq)
theorem own_icmp_ne (X : Stand p l e R s m args below meth c T locs cells slots) (hx : p.tables.exec = Jvm.exec) {x y : Int32} {o : Int} {pf pt : Nat} (hd : decode c.code pc = .ok (.if_icmp .ne o, 3)) (hpf : pc + 3 = pf) (ho : 0 ≤ (pc : Int) + o) (hpt : ((pc : Int) + o).toNat = pt)
    (yes : ¬ x = y → own_WP p e below s Q k n (T.setTop (mkF m pt ls rest))) (no : x = y → own_WP p e below s Q k n (T.setTop (mkF m pf ls rest))) : own_WP p e below s Q k n (T.setTop (mkF m pc ls (.int y :: .int x :: rest))) := by
  subst hpf
  by_cases hq : ¬ x = y
  · exact own_of (fun t q => XS.icmpYes X.here hx rfl (pc0 := pc) (pc' := pt) rfl hd rfl ((feq hq).2) ho hpt q) (yes hq)
  · exact own_of (fun t q => XS.icmpNo X.here hx rfl hd rfl ((teq (Classical.not_not.mp hq)).2) q) (no (Classical.not_not.mp hq))
theorem own_if_ne (X : Stand p l e R s m args below meth c T locs cells slots) (hx : p.tables.exec = Jvm.exec) {x : Int32} {o : Int} {pf pt : Nat} (hd : decode c.code pc = .ok (.ifCond .ne o, 3)) (hpf : pc + 3 = pf) (ho : 0 ≤ (pc : Int) + o) (hpt : ((pc : Int) + o).toNat = pt)
    (yes : ¬ x = 0 → own_WP p e below s Q k n (T.setTop (mkF m pt ls rest))) (no : x = 0 → own_WP p e below s Q k n (T.setTop (mkF m pf ls rest))) : own_WP p e below s Q k n (T.setTop (mkF m pc ls (.int x :: rest))) := by
  subst hpf
  by_cases hq : ¬ x = 0
  · exact own_of (fun t q => XS.ifYes X.here hx rfl (pc0 := pc) (pc' := pt) rfl hd rfl ((if0 _ _).trans (feq hq).2) ho hpt q) (yes hq)
  · exact own_of (fun t q => XS.ifNo X.here hx rfl hd rfl ((if0 _ _).trans (teq (Classical.not_not.mp hq)).2) q) (no (Classical.not_not.mp hq))
theorem own_ifl_ne (X : Stand p l e R s m args below meth c T locs cells slots) (hx : p.tables.exec = Jvm.exec) {x y : Int64} {o : Int} {pf pt : Nat} (hd : decode c.code pc = .ok (.ifCond .ne o, 3)) (hpf : pc + 3 = pf) (ho : 0 ≤ (pc : Int) + o) (hpt : ((pc : Int) + o).toNat = pt)
    (yes : ¬ x = y → own_WP p e below s Q k n (T.setTop (mkF m pt ls rest))) (no : x = y → own_WP p e below s Q k n (T.setTop (mkF m pf ls rest))) : own_WP p e below s Q k n (T.setTop (mkF m pc ls (.int (lcmpW x y) :: rest))) := by
  subst hpf
  by_cases hq : ¬ x = y
  · exact own_of (fun t q => XS.ifYes X.here hx rfl (pc0 := pc) (pc' := pt) rfl hd rfl ((if0 _ _).trans (feq (fun z => hq ((lw_eq x y).mp z))).2) ho hpt q) (yes hq)
  · exact own_of (fun t q => XS.ifNo X.here hx rfl hd rfl ((if0 _ _).trans (teq ((lw_eq x y).mpr (Classical.not_not.mp hq))).2) q) (no (Classical.not_not.mp hq))
theorem own_getF (X : Stand p l e R s m args below meth c T locs cells slots) (hx : p.tables.exec = Jvm.exec) (hZ : Z.Warmed39 s.vm) {own R0 O nm d host : String} {idx : Nat} (hown : s.vm.findClass own = some m.cls) (w1 : (Jvm.Cond.fieldLink own idx R0 nm d).before a0 Z = true ∨ (Jvm.Cond.fieldLinkNest own idx R0 nm d host).before a0 Z = true) (via : Via Z R0 O nm d) (eT : T.heap = h) {b : Addr} {v : Value} (F : Fld Z h b O nm d v) (hd : decode c.code pc = .ok (.getfield idx, 3)) (hpc : pc + 3 = pc')
    (w : ∀ T', Stand p l e R s m args below meth c T' locs cells slots → T'.heap = h → own_WP p e below s Q k n (T'.setTop (mkF m pc' ls (v :: rest)))) : own_WP p e below s Q k n (T.setTop (mkF m pc ls (.ref b :: rest))) := by
  subst hpc
  obtain ⟨T', X', e', st⟩ := getF X hx hZ hown w1 via eT F (g := mkF m pc ls (.ref b :: rest)) rfl rfl hd
  exact own_of st (w T' X' e')
theorem own_putF (X : Stand p l e R s m args below meth c T locs cells slots) (hx : p.tables.exec = Jvm.exec) (hZ : Z.Warmed39 s.vm) {own R0 O nm d host C : String} {idx kk : Nat} {ty : FieldType} (hown : s.vm.findClass own = some m.cls) (w1 : (Jvm.Cond.fieldLink own idx R0 nm d).before a0 Z = true ∨ (Jvm.Cond.fieldLinkNest own idx R0 nm d host).before a0 Z = true) (via : Via Z R0 O nm d) (eT : T.heap = h) {b : Addr} {v old : Value} (F : Fld Z h b O nm d old) (E : Exa Z h b C) (L : (Jvm.Cond.lays C O nm d).before a0 Z = true ∨ ((Jvm.Cond.laysFinal C O nm d).before a0 Z = true ∧ own = O ∧ meth.name = "<init>")) (wi : (Jvm.Cond.instantiable C kk).before a0 Z = true) (hty : parseFieldDescriptor d = some ty) (hn : narrow ty v = v) (hf : fits ty v = true) (hd : decode c.code pc = .ok (.putfield idx, 3)) (hpc : pc + 3 = pc')
    (w : ∀ T' h', Stand p l e R s m args below meth c T' (locs ++ [⟨b, Jvm.RoadKit.slotOf Z O nm d⟩]) cells slots → T'.heap = h' → Wr h h' b (Jvm.RoadKit.slotOf Z O nm d) v → own_WP p e below s Q k n (T'.setTop (mkF m pc' ls rest))) : own_WP p e below s Q k n (T.setTop (mkF m pc ls (v :: .ref b :: rest))) := by
  subst hpc
  obtain ⟨T', h', X', e', W', st⟩ := putF X hx hZ hown w1 via eT F E L wi hty hn hf (g := mkF m pc ls (v :: .ref b :: rest)) rfl rfl hd
  exact own_of st (w T' h' X' e' W')
theorem own_new (X : Stand p l e R s m args below meth c T locs cells slots) (hx : p.tables.exec = Jvm.exec) (hZ : Z.Warmed39 s.vm) {own C : String} {idx nn : Nat} (hown : s.vm.findClass own = some m.cls) (w1 : (Jvm.Cond.classLink own idx C).before a0 Z = true) (wi : (Jvm.Cond.instantiable C nn).before a0 Z = true) (wz : (Jvm.Cond.initialized C).before a0 Z = true) (eT : T.heap = h) (hd : decode c.code pc = .ok (.new idx, 3)) (hc : cells + 1 ≤ R.cells) (hl : slots + nn ≤ R.slots) (hpc : pc + 3 = pc')
    (w : ∀ T' h' b, b = h.size → Stand p l e R s m args below meth c T' locs (cells + 1) (slots + nn) → T'.heap = h' → Ext h h' → Exa Z h' b C → (∀ {O nm d : String} {ty : FieldType}, Laid Z a0 C O nm d → parseFieldDescriptor d = some ty → Fld Z h' b O nm d (defaultValue ty)) → own_WP p e below s Q k n (T'.setTop (mkF m pc' ls (.ref b :: rest)))) : own_WP p e below s Q k n (T.setTop (mkF m pc ls rest)) := by
  subst hpc
  obtain ⟨T', h', X', e', E', A', D', -, st⟩ := newO X hx hZ hown w1 wi wz eT (g := mkF m pc ls rest) rfl hd hc hl
  exact own_of st (w T' h' _ rfl X' e' E' A' D')
theorem own_newP (X : Stand p l e R s m args below meth c T locs cells slots) (hx : p.tables.exec = Jvm.exec) (hZ : Z.Warmed39 s.vm) {aty : ArrayType} (w1 : (Jvm.Cond.arrayClass (newarray.typeOf aty)).before a0 Z = true) (eT : T.heap = h) (hd : decode c.code pc = .ok (.newarray aty, 2)) {z : Int32} (hz : ¬ z < 0) {cap : Nat} (hcap : z.toNatClampNeg ≤ cap) (hb : cap * 8 ≤ 536870912) (hc : cells + 1 ≤ R.cells) (hl : slots + cap ≤ R.slots) (hpc : pc + 2 = pc')
    (w : ∀ T' h' cA b, b = h.size → Stand p l e R s m args below meth c T' locs (cells + 1) (slots + cap) → T'.heap = h' → Ext h h' → Arr Z h' b (newA cA (newarray.typeOf aty) z) (newarray.typeOf aty) → own_WP p e below s Q k n (T'.setTop (mkF m pc' ls (.ref b :: rest)))) : own_WP p e below s Q k n (T.setTop (mkF m pc ls (.int z :: rest))) := by
  subst hpc
  obtain ⟨T', h', cA, X', e', E', A', st⟩ := newP X hx hZ w1 eT (g := mkF m pc ls (.int z :: rest)) rfl hd rfl hz hcap hb hc hl
  exact own_of st (w T' h' cA _ rfl X' e' E' A')
theorem own_initO (X : Stand p l e R s m args below meth c T locs cells slots) (hx : p.tables.exec = Jvm.exec) (hZ : Z.Warmed39 s.vm) {own : String} {idx : Nat} (hown : s.vm.findClass own = some m.cls) (w1 : (Jvm.Cond.methodLink own idx Lib.objectInit).before a0 Z = true) (w2 : (Jvm.Cond.instanceMethod Lib.objectInit).before a0 Z = true) (w3 : (Jvm.Cond.code Lib.objectInit ⟨#[0xb1]⟩ 1 none).before a0 Z = true) (eT : T.heap = h) (hsz : ls.size = c.maxLocals) {b : Addr} (hd : decode c.code pc = .ok (.invokespecial idx, 3)) (hf : 1 ≤ R.frames) {W : Nat} (hW : (rest.map fun v => v.category).sum ≤ W) (hl : W + 12 ≤ R.locals) (hpc : pc + 3 = pc')
    (w : ∀ T', Stand p l e R s m args below meth c T' locs cells slots → T'.heap = h → own_WP p e below s Q k n (T'.setTop (mkF m pc' ls rest))) : own_WP p e below s Q k n (T.setTop (mkF m pc ls (.ref b :: rest))) := by
  subst hpc
  obtain ⟨T', X', e', st⟩ := initO X hx hZ hown w1 w2 w3 eT (g := mkF m pc ls (.ref b :: rest)) rfl hsz rfl hd hf (W := W) (by show 2 * 0 + _ ≤ _; omega) hl
  exact own_of st (w T' X' e')
theorem own_callS (X : Stand p l e R s m args below meth c T locs cells slots) (hx : p.tables.exec = Jvm.exec) (hZ : Z.Warmed39 s.vm) {own : String} {idx : Nat} {y : MethodName} {bytes : ByteArray} {maxL : Nat} {ret : Option FieldType} {rm : Room} {as' : Array Value} {Q' : Option Value → Heap → List Loc → Prop} (hown : s.vm.findClass own = some m.cls) (w1 : (Jvm.Cond.methodLink own idx y).before a0 Z = true) (w2 : (Jvm.Cond.static y).before a0 Z = true) (w3 : (Jvm.Cond.initialized y.cls).before a0 Z = true) (w4 : (Jvm.Cond.code y bytes maxL ret).before a0 Z = true) (hy : y.cls ≠ "java/lang/invoke/MethodHandle" ∧ y.cls ≠ "java/lang/invoke/VarHandle")
    (C : own_Con l Z y bytes maxL ret rm as' h Q') (eT : T.heap = h) {ps : List FieldType} {rt : Option FieldType} (hpd : parseMethodDescriptor y.desc = some ⟨ps, rt⟩) (argsL rest : List Value) (ha : argsL.toArray = as') (hal : argsL.length = ps.length) {st : List Value} (hst : st = argsL.reverse ++ rest) {W : Nat} (hW : (rest.map fun v => v.category).sum ≤ W) (hf : rm.frames + 1 ≤ R.frames) (hl : W + (maxL + 11) + rm.locals ≤ R.locals) (hsz : ls.size = c.maxLocals) (hd : decode c.code pc = .ok (.invokestatic idx, 3)) (hc : cells + rm.cells ≤ R.cells) (hs : slots + rm.slots ≤ R.slots) (hpc : pc + 3 = pc')
    (w : ∀ v T' L, Stand p l e R s m args below meth c T' (locs ++ L) (cells + rm.cells) (slots + rm.slots) → Q' v T'.heap L → own_WP p e below s Q k n (T'.setTop (mkF m pc' ls (v.toList ++ rest)))) : own_WP p e below s Q k n (T.setTop (mkF m pc ls st)) := by
  subst hpc hst ha
  obtain ⟨v, vm1, ⟨T', L', k', n'⟩, -, X', ⟨Lc, hQ, l1, y1, z1⟩, stp⟩ := Jvm.LawKit.callS X hx (y := y) hown (mvT hZ w1) (mvT hZ w2) (mvT hZ w3) (mvT hZ w4) hy (backOf (W := W) (C []) hZ w4 w3 hf hl) (g := mkF m pc ls (argsL.reverse ++ rest)) rfl hsz (argsL := argsL) (rest := rest) (lenOf hpd hal) rfl (by show 2 * 0 + _ ≤ _; omega) hd (fun _ _ => ⟨rfl, eT, hc, hs⟩)
  dsimp only [Pt.U, Pt.locs, Pt.cells, Pt.slots] at X' l1 y1 z1 stp hQ
  subst l1 y1 z1
  exact own_of stp (w _ _ _ X' hQ)
theorem own_callN (X : Stand p l e R s m args below meth c T locs cells slots) (hx : p.tables.exec = Jvm.exec) (hZ : Z.Warmed39 s.vm) {own : String} {idx : Nat} {y : MethodName} {bytes : ByteArray} {maxL : Nat} {rm : Room} {as' : Array Value} {Q' : Option Value → Heap → List Loc → Prop} (hy1 : y.name = "<init>") (hown : s.vm.findClass own = some m.cls) (w1 : (Jvm.Cond.methodLink own idx y).before a0 Z = true) (w2 : (Jvm.Cond.instanceMethod y).before a0 Z = true) (w3 : (Jvm.Cond.initialized y.cls).before a0 Z = true) (w4 : (Jvm.Cond.code y bytes maxL none).before a0 Z = true) (hy : y.cls ≠ "java/lang/invoke/MethodHandle" ∧ y.cls ≠ "java/lang/invoke/VarHandle")
    (C : own_Con l Z y bytes maxL none rm as' h Q') (eT : T.heap = h) {ps : List FieldType} {rt : Option FieldType} (hpd : parseMethodDescriptor y.desc = some ⟨ps, rt⟩) (b : Addr) (argsL rest : List Value) (ha : (.ref b :: argsL).toArray = as') (hal : argsL.length = ps.length) {st : List Value} (hst : st = argsL.reverse ++ .ref b :: rest) {W : Nat} (hW : (rest.map fun v => v.category).sum ≤ W) (hf : rm.frames + 1 ≤ R.frames) (hl : W + (maxL + 11) + rm.locals ≤ R.locals) (hsz : ls.size = c.maxLocals) (hd : decode c.code pc = .ok (.invokespecial idx, 3)) (hc : cells + rm.cells ≤ R.cells) (hs : slots + rm.slots ≤ R.slots) (hpc : pc + 3 = pc')
    (w : ∀ v T' L, Stand p l e R s m args below meth c T' (locs ++ L) (cells + rm.cells) (slots + rm.slots) → Q' v T'.heap L → own_WP p e below s Q k n (T'.setTop (mkF m pc' ls (v.toList ++ rest)))) : own_WP p e below s Q k n (T.setTop (mkF m pc ls st)) := by
  subst hpc hst ha
  obtain ⟨v, vm1, ⟨T', L', k', n'⟩, -, X', ⟨Lc, hQ, l1, y1, z1⟩, stp⟩ := X.specialBack hx (y := y) hy1 hown (mvT hZ w1) (mvT hZ w2) (mvT hZ w4) hy (backOf (W := W) (C []) hZ w4 w3 hf hl) (g := mkF m pc ls (argsL.reverse ++ .ref b :: rest)) rfl hsz (Steps.refl _) (a := b) (argsL := argsL) (rest := rest) (lenOf hpd hal) rfl (by show 2 * 0 + _ ≤ _; omega) hd (fun _ _ => ⟨rfl, eT, hc, hs⟩)
  dsimp only [Pt.U, Pt.locs, Pt.cells, Pt.slots] at X' l1 y1 z1 stp hQ
  subst l1 y1 z1
  exact own_of (fun t q => stp.trans q) (w _ _ _ X' hQ)
theorem own_callV (X : Stand p l e R s m args below meth c T locs cells slots) (hx : p.tables.exec = Jvm.exec) (hZ : Z.Warmed39 s.vm) {own D : String} {idx : Nat} {y z : MethodName} {bytes : ByteArray} {maxL : Nat} {ret : Option FieldType} {rm : Room} {as' : Array Value} {Q' : Option Value → Heap → List Loc → Prop} (hown : s.vm.findClass own = some m.cls) (w1 : (Jvm.Cond.methodLink own idx y).before a0 Z = true) (wd : (Jvm.Cond.declares y).before a0 Z = true) (hnf : NotFace s y) (ws : (Jvm.Cond.selects D y z).before a0 Z = true) (w2 : (Jvm.Cond.instanceMethod z).before a0 Z = true) (w3 : (Jvm.Cond.initialized z.cls).before a0 Z = true) (w4 : (Jvm.Cond.code z bytes maxL ret).before a0 Z = true) (hy : y.cls ≠ "java/lang/invoke/MethodHandle" ∧ y.cls ≠ "java/lang/invoke/VarHandle") {b : Addr} (E : Exa Z h b D)
    (C : own_Con l Z z bytes maxL ret rm as' h Q') (eT : T.heap = h) {ps : List FieldType} {rt : Option FieldType} (hpd : parseMethodDescriptor y.desc = some ⟨ps, rt⟩) (argsL rest : List Value) (ha : (.ref b :: argsL).toArray = as') (hal : argsL.length = ps.length) {st : List Value} (hst : st = argsL.reverse ++ .ref b :: rest) {W : Nat} (hW : (rest.map fun v => v.category).sum ≤ W) (hf : rm.frames + 1 ≤ R.frames) (hl : W + (maxL + 11) + rm.locals ≤ R.locals) (hsz : ls.size = c.maxLocals) (hd : decode c.code pc = .ok (.invokevirtual idx, 3)) (hc : cells + rm.cells ≤ R.cells) (hs : slots + rm.slots ≤ R.slots) (hpc : pc + 3 = pc')
    (w : ∀ v T' L, Stand p l e R s m args below meth c T' (locs ++ L) (cells + rm.cells) (slots + rm.slots) → Q' v T'.heap L → own_WP p e below s Q k n (T'.setTop (mkF m pc' ls (v.toList ++ rest)))) : own_WP p e below s Q k n (T.setTop (mkF m pc ls st)) := by
  subst hpc hst ha
  obtain ⟨cq, kq, qa, qb, qc⟩ := isOf (T := T) hZ eT E
  obtain ⟨v, vm1, ⟨T', L', k', n'⟩, -, X', ⟨Lc, hQ, l1, y1, z1⟩, stp⟩ := X.virtualBack hx (y := y) (z := z) hown (mvT hZ w1) (mvT hZ wd) hnf (mvT hZ ws) (mvT hZ w2) hy (backOf (W := W) (C []) hZ w4 w3 hf hl) qa qc (g := mkF m pc ls (argsL.reverse ++ .ref b :: rest)) rfl hsz (Steps.refl _) (argsL := argsL) (rest := rest) (lenOf hpd hal) rfl (by show 2 * 0 + _ ≤ _; omega) hd (fun _ _ => ⟨rfl, eT, hc, hs⟩)
  dsimp only [Pt.U, Pt.locs, Pt.cells, Pt.slots] at X' l1 y1 z1 stp hQ
  subst l1 y1 z1
  exact own_of (fun t q => stp.trans q) (w _ _ _ X' hQ)

theorem own_laload (X : Stand p l e R s m args below meth c T locs cells slots) (hx : p.tables.exec = Jvm.exec) (hZ : Z.Warmed39 s.vm) (eT : T.heap = h) {b : Addr} {kk : ClassId} {z j : Int32} {vs : List Value} {dv v : Value} (F : Arv Z h b kk .long z vs dv) (hj : ¬ j < 0 ∧ j < z) (hv : vs.getD j.toNatClampNeg dv = v) (hd : decode c.code pc = .ok (.laload, 1)) (hpc : pc + 1 = pc') (w : own_WP p e below s Q k n (T.setTop (mkF m pc' ls (v :: rest)))) : own_WP p e below s Q k n (T.setTop (mkF m pc ls (.int j :: .ref b :: rest))) := by
  subst hpc
  obtain ⟨cl, A, q1, S, q3, H, G⟩ := F
  exact own_of (fun t q => X.laload hx (j := j) (v := v) (by rw [eT]; exact A.1) (State.isArrayOf_alike hZ.alike A.2.1) A.2.2 (inb_of S hj) (H.at (inb_of S hj) hv) (g := mkF m pc ls (.int j :: .ref b :: rest)) rfl rfl hd _ q) w
theorem own_baload (X : Stand p l e R s m args below meth c T locs cells slots) (hx : p.tables.exec = Jvm.exec) (hZ : Z.Warmed39 s.vm) (eT : T.heap = h) {b : Addr} {kk : ClassId} {z j : Int32} {vs : List Value} {dv v : Value} (F : Arv Z h b kk .byte z vs dv) (hj : ¬ j < 0 ∧ j < z) (hv : vs.getD j.toNatClampNeg dv = v) (hd : decode c.code pc = .ok (.baload, 1)) (hpc : pc + 1 = pc') (w : own_WP p e below s Q k n (T.setTop (mkF m pc' ls (v :: rest)))) : own_WP p e below s Q k n (T.setTop (mkF m pc ls (.int j :: .ref b :: rest))) := by
  subst hpc
  obtain ⟨cl, A, q1, S, q3, H, G⟩ := F
  exact own_of (fun t q => X.baloadBytes hx (j := j) (v := v) (by rw [eT]; exact A.1) (State.isArrayOf_alike hZ.alike A.2.1) A.2.2 (inb_of S hj) (H.at (inb_of S hj) hv) (g := mkF m pc ls (.int j :: .ref b :: rest)) rfl rfl hd _ q) w
theorem own_iaload (X : Stand p l e R s m args below meth c T locs cells slots) (hx : p.tables.exec = Jvm.exec) (hZ : Z.Warmed39 s.vm) (eT : T.heap = h) {b : Addr} {kk : ClassId} {z j : Int32} {vs : List Value} {dv v : Value} (F : Arv Z h b kk .int z vs dv) (hj : ¬ j < 0 ∧ j < z) (hv : vs.getD j.toNatClampNeg dv = v) (hd : decode c.code pc = .ok (.iaload, 1)) (hpc : pc + 1 = pc') (w : own_WP p e below s Q k n (T.setTop (mkF m pc' ls (v :: rest)))) : own_WP p e below s Q k n (T.setTop (mkF m pc ls (.int j :: .ref b :: rest))) := by
  subst hpc
  obtain ⟨cl, A, q1, S, q3, H, G⟩ := F
  exact own_of (fun t q => X.iaload hx (j := j) (v := v) (by rw [eT]; exact A.1) (State.isArrayOf_alike hZ.alike A.2.1) A.2.2 (inb_of S hj) (H.at (inb_of S hj) hv) (g := mkF m pc ls (.int j :: .ref b :: rest)) rfl rfl hd _ q) w
theorem own_caload (X : Stand p l e R s m args below meth c T locs cells slots) (hx : p.tables.exec = Jvm.exec) (hZ : Z.Warmed39 s.vm) (eT : T.heap = h) {b : Addr} {kk : ClassId} {z j : Int32} {vs : List Value} {dv v : Value} (F : Arv Z h b kk .char z vs dv) (hj : ¬ j < 0 ∧ j < z) (hv : vs.getD j.toNatClampNeg dv = v) (hd : decode c.code pc = .ok (.caload, 1)) (hpc : pc + 1 = pc') (w : own_WP p e below s Q k n (T.setTop (mkF m pc' ls (v :: rest)))) : own_WP p e below s Q k n (T.setTop (mkF m pc ls (.int j :: .ref b :: rest))) := by
  subst hpc
  obtain ⟨cl, A, q1, S, q3, H, G⟩ := F
  exact own_of (fun t q => X.caload hx (j := j) (v := v) (by rw [eT]; exact A.1) (State.isArrayOf_alike hZ.alike A.2.1) A.2.2 (inb_of S hj) (H.at (inb_of S hj) hv) (g := mkF m pc ls (.int j :: .ref b :: rest)) rfl rfl hd _ q) w
theorem own_lastore (X : Stand p l e R s m args below meth c T locs cells slots) (hx : p.tables.exec = Jvm.exec) (hZ : Z.Warmed39 s.vm) (eT : T.heap = h) {b : Addr} {kk : ClassId} {z j : Int32} {vs : List Value} {dv : Value} {x : Int64} (F : Arv Z h b kk .long z vs dv) (hj : ¬ j < 0 ∧ j < z) (i : Nat) (hi : j.toNatClampNeg = i) (hlen : i < vs.length) (hd : decode c.code pc = .ok (.lastore, 1)) (hpc : pc + 1 = pc') (w : ∀ T' h', Stand p l e R s m args below meth c T' (locs ++ [⟨b, j.toNatClampNeg⟩]) cells slots → T'.heap = h' → Wr h h' b j.toNatClampNeg (.long x) → Arv Z h' b kk .long z (vs.set i (.long x)) dv → own_WP p e below s Q k n (T'.setTop (mkF m pc' ls rest))) : own_WP p e below s Q k n (T.setTop (mkF m pc ls (.long x :: .int j :: .ref b :: rest))) := by
  subst hpc
  obtain ⟨cl, A, q1, S, q3, H, G⟩ := F
  obtain ⟨T', h', X', e', W', st⟩ := stJ X hx hZ eT A (j := j) (inb_of S hj) (g := mkF m pc ls (.long x :: .int j :: .ref b :: rest)) rfl rfl hd
  exact own_of st (w T' h' X' e' W' (Arv.set A q1 S q3 H G rfl W' i hi hlen))
theorem own_bastore (X : Stand p l e R s m args below meth c T locs cells slots) (hx : p.tables.exec = Jvm.exec) (hZ : Z.Warmed39 s.vm) (eT : T.heap = h) {b : Addr} {kk : ClassId} {z j : Int32} {vs : List Value} {dv : Value} {x : Int32} (F : Arv Z h b kk .byte z vs dv) (hj : ¬ j < 0 ∧ j < z) (i : Nat) (hi : j.toNatClampNeg = i) (hlen : i < vs.length) (hd : decode c.code pc = .ok (.bastore, 1)) (hpc : pc + 1 = pc') (w : ∀ T' h', Stand p l e R s m args below meth c T' (locs ++ [⟨b, j.toNatClampNeg⟩]) cells slots → T'.heap = h' → Wr h h' b j.toNatClampNeg (.int (nar .byte x)) → Arv Z h' b kk .byte z (vs.set i (.int (nar .byte x))) dv → own_WP p e below s Q k n (T'.setTop (mkF m pc' ls rest))) : own_WP p e below s Q k n (T.setTop (mkF m pc ls (.int x :: .int j :: .ref b :: rest))) := by
  subst hpc
  obtain ⟨cl, A, q1, S, q3, H, G⟩ := F
  obtain ⟨T', h', X', e', W', st⟩ := stB X hx hZ eT A (j := j) (inb_of S hj) (g := mkF m pc ls (.int x :: .int j :: .ref b :: rest)) rfl rfl hd
  exact own_of st (w T' h' X' e' W' (Arv.set A q1 S q3 H G (fits_nar_byte x) W' i hi hlen))
theorem own_iastore (X : Stand p l e R s m args below meth c T locs cells slots) (hx : p.tables.exec = Jvm.exec) (hZ : Z.Warmed39 s.vm) (eT : T.heap = h) {b : Addr} {kk : ClassId} {z j : Int32} {vs : List Value} {dv : Value} {x : Int32} (F : Arv Z h b kk .int z vs dv) (hj : ¬ j < 0 ∧ j < z) (i : Nat) (hi : j.toNatClampNeg = i) (hlen : i < vs.length) (hd : decode c.code pc = .ok (.iastore, 1)) (hpc : pc + 1 = pc') (w : ∀ T' h', Stand p l e R s m args below meth c T' (locs ++ [⟨b, j.toNatClampNeg⟩]) cells slots → T'.heap = h' → Wr h h' b j.toNatClampNeg (.int x) → Arv Z h' b kk .int z (vs.set i (.int x)) dv → own_WP p e below s Q k n (T'.setTop (mkF m pc' ls rest))) : own_WP p e below s Q k n (T.setTop (mkF m pc ls (.int x :: .int j :: .ref b :: rest))) := by
  subst hpc
  obtain ⟨cl, A, q1, S, q3, H, G⟩ := F
  obtain ⟨T', h', X', e', W', st⟩ := stI X hx hZ eT A (j := j) (inb_of S hj) (g := mkF m pc ls (.int x :: .int j :: .ref b :: rest)) rfl rfl hd
  exact own_of st (w T' h' X' e' W' (Arv.set A q1 S q3 H G rfl W' i hi hlen))
theorem own_arrlen (X : Stand p l e R s m args below meth c T locs cells slots) (hx : p.tables.exec = Jvm.exec) (hZ : Z.Warmed39 s.vm) (eT : T.heap = h) {b : Addr} {kk : ClassId} {z : Int32} {vs : List Value} {dv : Value} {ty : FieldType} (F : Arv Z h b kk ty z vs dv) (hd : decode c.code pc = .ok (.arraylength, 1)) (hpc : pc + 1 = pc') (w : own_WP p e below s Q k n (T.setTop (mkF m pc' ls (.int z :: rest)))) : own_WP p e below s Q k n (T.setTop (mkF m pc ls (.ref b :: rest))) := by
  subst hpc
  obtain ⟨cl, A, q1, S, q3, H, G⟩ := F
  refine own_of (fun t q => X.arraylength hx (by rw [eT]; exact A.1) (State.isArrayOf_alike hZ.alike A.2.1) (g := mkF m pc ls (.ref b :: rest)) rfl rfl hd _ ?_) w
  rw [len_of S q3]
  exact q
end OwnWP
def own_A (B : Nat → Int32) (len : Nat) : Nat → Nat → Nat → Bool → Int
  | 0, _, _, _ => -1
  | k + 1, i, st, seen => if i < len ∧ B i = 10 then (if ¬ st = 2 ∧ seen = true then ((i + 1 : Nat) : Int) else own_A B len k (i + 1) 0 (seen || decide (st = 2))) else own_A B len k (i + 1) (if st = 0 ∧ B i = 13 then 1 else 2) seen
theorem own_Anone (B : Nat → Int32) (len : Nat) : ∀ (k i st : Nat) (seen : Bool), (∀ j, i ≤ j → j < len → ¬ B j = 10) → own_A B len k i st seen = -1 := by
  intro k
  induction k with
  | zero => intros; rfl
  | succ k ih =>
    intro i st seen h
    rw [own_A, if_neg (fun q => h i (Nat.le_refl _) q.1 q.2)]
    exact ih _ _ _ (fun j h1 h2 => h j (by omega) h2)
theorem own_Askip2 (B : Nat → Int32) (len : Nat) (seen : Bool) : ∀ (d k i : Nat), d ≤ k → (∀ j, i ≤ j → j < i + d → ¬ B j = 10) → own_A B len k i 2 seen = own_A B len (k - d) (i + d) 2 seen := by
  intro d
  induction d with
  | zero => intros; rfl
  | succ d ih =>
    intro k i hk h
    obtain ⟨k, rfl⟩ : ∃ k', k = k' + 1 := ⟨k - 1, by omega⟩
    rw [own_A, if_neg (fun q => h i (Nat.le_refl _) (by omega) q.2), if_neg (by omega), ih k (i + 1) (by omega) (fun j h1 h2 => h j (by omega) (by omega))]
    rw [show k + 1 - (d + 1) = k - d by omega, show i + 1 + d = i + (d + 1) by omega]
/-- how a line from f to the LF at p looks there: 0 nothing, 1 a lone CR, 2 else -/
def own_st (B : Nat → Int32) (f p : Nat) : Nat := if p = f then 0 else if p = f + 1 ∧ B f = 13 then 1 else 2
theorem own_Askip (B : Nat → Int32) (len : Nat) (seen : Bool) (f p k : Nat) (hfp : f ≤ p) (hk : p - f ≤ k) (h : ∀ j, f ≤ j → j < p → ¬ B j = 10) : own_A B len k f 0 seen = own_A B len (k - (p - f)) p (own_st B f p) seen := by
  by_cases e : p = f
  · subst e
    rw [Nat.sub_self, own_st, if_pos rfl]
    rfl
  · obtain ⟨k, rfl⟩ : ∃ k', k = k' + 1 := ⟨k - 1, by omega⟩
    rw [own_A, if_neg (fun q => h f (Nat.le_refl _) (by omega) q.2)]
    by_cases e1 : p = f + 1
    · subst e1
      rw [show k + 1 - (f + 1 - f) = k by omega, own_st, if_neg e]
      by_cases c : B f = 13
      · rw [if_pos ⟨rfl, c⟩, if_pos ⟨rfl, c⟩]
      · rw [if_neg (fun q => c q.2), if_neg (fun q => c q.2)]
    · obtain ⟨k, rfl⟩ : ∃ k', k = k' + 1 := ⟨k - 1, by omega⟩
      have hs : own_st B f p = 2 := by unfold own_st; rw [if_neg e, if_neg (fun q => e1 q.1)]
      rw [hs]
      rw [own_A, if_neg (fun q => h (f + 1) (by omega) (by omega) q.2)]
      have z : (if (if (0 = 0 ∧ B f = 13) then 1 else 2) = 0 ∧ B (f + 1) = 13 then 1 else 2) = 2 := by
        have : ¬ (if (0 = 0 ∧ B f = 13) then 1 else 2) = 0 := by split <;> decide
        rw [if_neg (fun q => this q.1)]
      rw [z, own_Askip2 B len seen (p - (f + 2)) k (f + 1 + 1) (by omega) (fun j h1 h2 => h j (by omega) (by omega))]
      rw [show k + 1 + 1 - (p - f) = k - (p - (f + 2)) by omega, show f + 1 + 1 + (p - (f + 2)) = p by omega]
/-- what emptyAt asks at p -/
abbrev own_E (B : Nat → Int32) (p : Nat) : Prop := p = 0 ∨ B (p - 1) = 10 ∨ (B (p - 1) = 13 ∧ (p = 1 ∨ B (p - 2) = 10))
/-- the automaton's mark at p, read off the bytes ahead of p -/
def own_mark (B : Nat → Int32) (len p st : Nat) : Prop := (st = 0 ↔ (p = 0 ∨ B (p - 1) = 10)) ∧ (st = 1 ↔ (¬ (p = 0 ∨ B (p - 1) = 10) ∧ B (p - 1) = 13 ∧ (p = 1 ∨ B (p - 2) = 10))) ∧ st ≤ 2
theorem own_markE {B : Nat → Int32} {len p st : Nat} (h : own_mark B len p st) : ¬ st = 2 ↔ own_E B p := by
  obtain ⟨h0, h1, h2⟩ := h
  unfold own_E
  constructor
  · intro q
    have : st = 0 ∨ st = 1 := by omega
    rcases this with r | r
    · rcases h0.mp r with a | a
      · exact Or.inl a
      · exact Or.inr (Or.inl a)
    · exact Or.inr (Or.inr (h1.mp r).2)
  · rintro (q | q | q) r
    · have := h0.mpr (Or.inl q); omega
    · have := h0.mpr (Or.inr q); omega
    · by_cases c : p = 0 ∨ B (p - 1) = 10
      · have := h0.mpr c; omega
      · have := h1.mpr ⟨c, q⟩; omega
theorem own_markLF {B : Nat → Int32} {len p : Nat} (hb : B p = 10) : own_mark B len (p + 1) 0 := by
  refine ⟨⟨fun _ => Or.inr (by simpa using hb), fun _ => rfl⟩, ⟨fun q => absurd q (by decide), fun q => absurd (Or.inr (by simpa using hb)) q.1⟩, by decide⟩
theorem own_markNo {B : Nat → Int32} {len p st : Nat} (h : own_mark B len p st) (hb : ¬ B p = 10) : own_mark B len (p + 1) (if st = 0 ∧ B p = 13 then 1 else 2) := by
  obtain ⟨h0, h1, h2⟩ := h
  have e1 : ¬ (p + 1 = 0 ∨ B (p + 1 - 1) = 10) := by simp [hb]
  by_cases c : st = 0 ∧ B p = 13
  · rw [if_pos c]
    refine ⟨⟨fun q => absurd q (by decide), fun q => absurd q e1⟩, ⟨fun _ => ⟨e1, by simpa using c.2, ?_⟩, fun _ => rfl⟩, by decide⟩
    rcases h0.mp c.1 with r | r
    · exact Or.inl (by omega)
    · exact Or.inr (by rw [show p + 1 - 2 = p - 1 by omega]; exact r)
  · rw [if_neg c]
    refine ⟨⟨fun q => absurd q (by decide), fun q => absurd q e1⟩, ⟨fun q => absurd q (by decide), fun q => ?_⟩, by decide⟩
    obtain ⟨-, q2, q3⟩ := q
    exfalso
    refine c ⟨h0.mpr ?_, by simpa using q2⟩
    rcases q3 with r | r
    · exact Or.inl (by omega)
    · by_cases p0 : p = 0
      · exact Or.inl p0
      · exact Or.inr (by rw [show p + 1 - 2 = p - 1 by omega] at r; exact r)
/-- where the law stands ahead of place i: e, s; R the automaton's answer -/
def own_Inv (B : Nat → Int32) (len : Nat) (R : Int) (i : Nat) (e s : Int32) : Prop :=
  (e = -1 ∧ (s = 0 ∨ s = 1) ∧ ∃ st, own_mark B len i st ∧ R = own_A B len (8 - i) i st (decide (s = 1))) ∨ (e.toInt = R ∧ ¬ e < 0)
theorem own_Inv0 (B : Nat → Int32) (len : Nat) : own_Inv B len (own_A B len 8 0 0 false) 0 (-1) 0 :=
  Or.inl ⟨rfl, Or.inl rfl, 0, ⟨⟨fun _ => Or.inl rfl, fun _ => rfl⟩, ⟨fun q => absurd q (by decide), fun q => absurd (Or.inl rfl) q.1⟩, by decide⟩, rfl⟩
/-- the law's step at i: bl, fu: what blank and full say there -/
theorem own_InvStep {B : Nat → Int32} {len : Nat} {R : Int} {i : Nat} {e s k : Int32} (hi : i < 8) (hk : k.toInt = ((i + 1 : Nat) : Int)) (h : own_Inv B len R i e s) (he : e < 0) : 
    (¬ s = 0 → i < len ∧ B i = 10 → own_E B i → ∀ s', own_Inv B len R (i + 1) k s') ∧ (¬ (¬ s = 0 ∧ (i < len ∧ B i = 10) ∧ own_E B i) → own_Inv B len R (i + 1) e (if (i < len ∧ B i = 10) ∧ ¬ own_E B i then 1 else s)) := by
  rcases h with ⟨rfl, hs, st, hm, hR⟩ | ⟨_, h⟩
  · rw [show 8 - i = (8 - (i + 1)) + 1 by omega, own_A] at hR
    have hE := own_markE hm
    constructor
    · intro s0 hl hem s'
      have s1 : s = 1 := by rcases hs with q | q; exact absurd q s0; exact q
      rw [if_pos hl, if_pos ⟨hE.mpr hem, by simpa using s1⟩] at hR
      refine Or.inr ⟨by rw [hk, hR], ?_⟩
      rw [Int32.lt_iff_toInt_lt, hk]
      have : (0 : Int32).toInt = 0 := by decide
      omega
    · intro hn
      by_cases hl : i < len ∧ B i = 10
      · rw [if_pos hl] at hR
        have hc : ¬ (¬ st = 2 ∧ decide (s = 1) = true) := by
          rintro ⟨a, b⟩
          have b' : s = 1 := by simpa using b
          exact hn ⟨by rw [b']; decide, hl, hE.mp a⟩
        rw [if_neg hc] at hR
        by_cases hem : own_E B i
        · rw [if_neg (fun q => q.2 hem)]
          have st2 := hE.mpr hem
          refine Or.inl ⟨rfl, hs, 0, own_markLF hl.2, ?_⟩
          rw [hR]
          congr 1
          simp [st2]
        · rw [if_pos ⟨hl, hem⟩]
          have st2 : st = 2 := Classical.not_not.mp (fun q => hem (hE.mp q))
          refine Or.inl ⟨rfl, Or.inr rfl, 0, own_markLF hl.2, ?_⟩
          rw [hR]
          congr 1
          simp [st2]
      · rw [if_neg hl] at hR
        rw [if_neg (fun q => hl q.1)]
        by_cases hb : B i = 10
        · -- behind the length: nothing more is found
          have hni : len ≤ i := by
            rcases Nat.lt_or_ge i len with q | q
            · exact absurd ⟨q, hb⟩ hl
            · exact q
          refine Or.inl ⟨rfl, hs, 0, own_markLF hb, ?_⟩
          rw [hR, own_Anone _ _ _ _ _ _ (fun j h1 h2 => by omega), own_Anone _ _ _ _ _ _ (fun j h1 h2 => by omega)]
        · exact Or.inl ⟨rfl, hs, _, own_markNo hm hb, hR⟩
  · exact absurd he h
theorem own_InvEnd {B : Nat → Int32} {len : Nat} {R : Int} {e s : Int32} (h : own_Inv B len R 8 e s) : e.toInt = R := by
  rcases h with ⟨rfl, -, st, -, hR⟩ | ⟨h, -⟩
  · rw [hR]; rfl
  · exact h
theorem own_InvKeep {B : Nat → Int32} {len : Nat} {R : Int} {i : Nat} {e s : Int32} (h : own_Inv B len R i e s) (he : ¬ e < 0) (s' : Int32) : own_Inv B len R (i + 1) e s' := by
  rcases h with ⟨rfl, -⟩ | h
  · exact absurd (by decide) he
  · exact Or.inr h

theorem own_isb (y : Int32) : nar .byte (nar .byte y) = nar .byte y := by
  show (y.toInt8.toInt32).toInt8.toInt32 = y.toInt8.toInt32
  simp
def own_at (bs : List Int32) (i : Nat) : Int32 := bs.getD i 0
theorem own_getm (bs : List Int32) (i : Nat) : (bs.map Value.int).getD i (.int 0) = .int (own_at bs i) := by
  unfold own_at
  induction bs generalizing i with
  | nil => rfl
  | cons b bs ih => cases i with
    | zero => rfl
    | succ i => exact ih i
def own_bb (P : Prop) [Decidable P] : Int32 := if P then 1 else 0
theorem own_bb0 {P : Prop} [Decidable P] {r : Int32} (h : r = own_bb P) (q : r = 0) : ¬ P := by
  intro hp
  rw [h, own_bb, if_pos hp] at q
  exact absurd q (by decide)
theorem own_bb1 {P : Prop} [Decidable P] {r : Int32} (h : r = own_bb P) (q : ¬ r = 0) : P := by
  rcases Decidable.em P with hp | hp
  · exact hp
  · exact absurd (by rw [h, own_bb, if_neg hp]) q
/-- what lineEnd answers from f on -/
def own_LE (bs : List Int32) (f t : Nat) (z : Int32) : Prop := (z = -1 ∧ ∀ j, f ≤ j → j < t → ¬ own_at bs j = 10) ∨ (∃ p : Nat, z.toInt = (p : Int) ∧ f ≤ p ∧ p < t ∧ own_at bs p = 10 ∧ ∀ j, f ≤ j → j < p → ¬ own_at bs j = 10)
theorem own_ltI {a b : Int32} : a < b ↔ a.toInt < b.toInt := Int32.lt_iff_toInt_lt
theorem own_i0 : (0 : Int32).toInt = 0 := by decide
theorem own_i1 : (1 : Int32).toInt = 1 := by decide
theorem own_i8 : (8 : Int32).toInt = 8 := by decide
theorem own_idx {i : Int32} (h0 : 0 ≤ i.toInt) (h8 : i.toInt < 8) : ¬ i < 0 ∧ i < 8 := by
  rw [own_ltI, own_ltI, own_i0, own_i8]; omega
theorem own_inc {i v : Int32} (h : v = i + 1) (h0 : 0 ≤ i.toInt) (h8 : i.toInt < 100) : v.toInt = i.toInt + 1 := by
  have a := c_iadd i 1
  have b := rng32 (i + 1)
  rw [own_i1] at a
  rw [h]
  omega
/-- one turn of end's loop, at the LF p of a line from f -/
theorem own_estep {bs : List Int32} {len f p : Nat} {RR : Int} {sn x y : Int32} (hp8 : p < 8) (hfp : f ≤ p) (hpl : p < len) (hb : own_at bs p = 10) (hno : ∀ j, f ≤ j → j < p → ¬ own_at bs j = 10) (hs : sn = 0 ∨ sn = 1) (hR : RR = own_A (own_at bs) len (8 - f) f 0 (decide (sn = 1))) (hx : x = if own_st (own_at bs) f p = 2 then 0 else 1) (hy : y = if x = 0 then 1 else 0) :
    (¬ x = 0 → ¬ sn = 0 → RR = ((p + 1 : Nat) : Int)) ∧ (¬ (¬ x = 0 ∧ ¬ sn = 0) → RR = own_A (own_at bs) len (8 - (p + 1)) (p + 1) 0 (decide ((sn ||| y) = 1)) ∧ ((sn ||| y) = 0 ∨ (sn ||| y) = 1)) := by
  rw [own_Askip (own_at bs) len _ f p (8 - f) hfp (by omega) hno, show 8 - f - (p - f) = (8 - (p + 1)) + 1 by omega, own_A, if_pos ⟨hpl, hb⟩] at hR
  by_cases h2 : own_st (own_at bs) f p = 2
  · rw [if_pos h2] at hx
    subst hx
    rw [if_pos rfl] at hy
    subst hy
    rw [if_neg (fun q => q.1 h2)] at hR
    refine ⟨fun q => absurd rfl q, fun _ => ⟨?_, ?_⟩⟩
    · rw [hR]; congr 1
      rcases hs with rfl | rfl <;> simp [h2]
    · rcases hs with rfl | rfl <;> decide
  · rw [if_neg h2] at hx
    subst hx
    rw [if_neg (by decide)] at hy
    subst hy
    constructor
    · intro _ q
      have s1 : sn = 1 := hs.resolve_left q
      rw [if_pos ⟨h2, by simpa using s1⟩] at hR
      exact hR
    · intro q
      have s0 : sn = 0 := Classical.not_not.mp (fun z => q ⟨by decide, z⟩)
      subst s0
      rw [if_neg (by simp)] at hR
      refine ⟨?_, Or.inl (by decide)⟩
      rw [hR]; congr 1
      simp [h2]
theorem own_nine (x v : Int32) (h : v = (x &&& (2147483647 : Int32)) % 9) : 0 ≤ v.toInt ∧ v.toInt ≤ 8 := by
  have a := c_and x 2147483647 (by decide)
  have b := (c_irem (x &&& 2147483647) 9 9 (by decide)).1 a.1
  rw [← h] at b
  omega
theorem own_lit {i : Nat} {len v : Int32} (h : 0 ≤ len.toInt) (hv : v.toInt = (i : Int)) : v < len ↔ i < len.toInt.toNat := by
  rw [own_ltI, hv]; omega

theorem own_s0 {bs : List Int32} {f pp : Int32} {p' : Nat} (hf : 0 ≤ f.toInt) (hp' : pp.toInt = (p' : Int)) (h : pp = f) : (1 : Int32) = if own_st (own_at bs) f.toInt.toNat p' = 2 then 0 else 1 := by
  have e : p' = f.toInt.toNat := by rw [h] at hp'; omega
  have e2 : own_st (own_at bs) f.toInt.toNat p' = 0 := by unfold own_st; rw [if_pos e]
  rw [e2]; decide
theorem own_pne {f pp : Int32} {p' : Nat} (hf : 0 ≤ f.toInt) (hp' : pp.toInt = (p' : Int)) (h : ¬ pp = f) : ¬ p' = f.toInt.toNat := fun q => h (Int32.toInt_inj.mp (by omega))
theorem own_s1 {bs : List Int32} {f pp : Int32} {p' : Nat} (hf : 0 ≤ f.toInt) (hp' : pp.toInt = (p' : Int)) (h : ¬ pp = f) (h1 : pp = f + 1) (h13 : own_at bs f.toInt.toNat = 13) : (1 : Int32) = if own_st (own_at bs) f.toInt.toNat p' = 2 then 0 else 1 := by
  have a := c_iadd f 1
  have r1 := rng32 f
  have r2 := rng32 (f + 1)
  rw [own_i1, ← h1] at a
  rw [← h1] at r2
  have e : p' = f.toInt.toNat + 1 := by omega
  have e2 : own_st (own_at bs) f.toInt.toNat p' = 1 := by unfold own_st; rw [if_neg (own_pne hf hp' h), if_pos ⟨e, h13⟩]
  rw [e2]; decide
theorem own_s2 {bs : List Int32} {f pp : Int32} {p' : Nat} (hf : 0 ≤ f.toInt) (hp' : pp.toInt = (p' : Int)) (h : ¬ pp = f) (h1 : ¬ pp = f + 1) : (0 : Int32) = if own_st (own_at bs) f.toInt.toNat p' = 2 then 0 else 1 := by
  have e : ¬ p' = f.toInt.toNat + 1 := by
    intro q
    apply h1
    apply Int32.toInt_inj.mp
    have a := c_iadd f 1
    have r1 := rng32 pp
    have r2 := rng32 (f + 1)
    rw [own_i1] at a
    omega
  have e2 : own_st (own_at bs) f.toInt.toNat p' = 2 := by unfold own_st; rw [if_neg (own_pne hf hp' h), if_neg (fun q => e q.1)]
  rw [e2]; decide
theorem own_s3 {bs : List Int32} {f pp : Int32} {p' : Nat} (hf : 0 ≤ f.toInt) (hp' : pp.toInt = (p' : Int)) (h : ¬ pp = f) (h13 : ¬ own_at bs f.toInt.toNat = 13) : (0 : Int32) = if own_st (own_at bs) f.toInt.toNat p' = 2 then 0 else 1 := by
  have e2 : own_st (own_at bs) f.toInt.toNat p' = 2 := by unfold own_st; rw [if_neg (own_pne hf hp' h), if_neg (fun q => h13 q.2)]
  rw [e2]; decide

theorem d1_0 : decode method_2_code 0 = .ok (.iload_n 0, 1) := by decide +kernel
theorem d1_1 : decode method_2_code 1 = .ok (.iconst 2, 1) := by decide +kernel
theorem d1_2 : decode method_2_code 2 = .ok (.iload_n 3, 1) := by decide +kernel
theorem d1_3 : decode method_2_code 3 = .ok (.imul, 1) := by decide +kernel
theorem d1_4 : decode method_2_code 4 = .ok (.iushr, 1) := by decide +kernel
theorem d1_5 : decode method_2_code 5 = .ok (.iconst 3, 1) := by decide +kernel
theorem d1_6 : decode method_2_code 6 = .ok (.iand, 1) := by decide +kernel
theorem d1_7 : decode method_2_code 7 = .ok (.istore 4, 2) := by decide +kernel
theorem d1_9 : decode method_2_code 9 = .ok (.iload 4, 2) := by decide +kernel
theorem d1_11 : decode method_2_code 11 = .ok (.ifCond .ne 6, 3) := by decide +kernel
theorem d1_14 : decode method_2_code 14 = .ok (.bipush 10, 2) := by decide +kernel
theorem d1_16 : decode method_2_code 16 = .ok (.ireturn, 1) := by decide +kernel
theorem d1_17 : decode method_2_code 17 = .ok (.iload 4, 2) := by decide +kernel
theorem d1_19 : decode method_2_code 19 = .ok (.iconst 1, 1) := by decide +kernel
theorem d1_20 : decode method_2_code 20 = .ok (.if_icmp .ne 6, 3) := by decide +kernel
theorem d1_23 : decode method_2_code 23 = .ok (.bipush 13, 2) := by decide +kernel
theorem d1_25 : decode method_2_code 25 = .ok (.ireturn, 1) := by decide +kernel
theorem d1_26 : decode method_2_code 26 = .ok (.lload_n 1, 1) := by decide +kernel
theorem d1_27 : decode method_2_code 27 = .ok (.bipush 8, 2) := by decide +kernel
theorem d1_29 : decode method_2_code 29 = .ok (.iload_n 3, 1) := by decide +kernel
theorem d1_30 : decode method_2_code 30 = .ok (.imul, 1) := by decide +kernel
theorem d1_31 : decode method_2_code 31 = .ok (.lushr, 1) := by decide +kernel
theorem d1_32 : decode method_2_code 32 = .ok (.l2i, 1) := by decide +kernel
theorem d1_33 : decode method_2_code 33 = .ok (.i2b, 1) := by decide +kernel
theorem d1_34 : decode method_2_code 34 = .ok (.ireturn, 1) := by decide +kernel
theorem pn_1 : plainFor (⟨"com/example/steerage/steerage/agent/HttpHeadEndPinLaw", "pick", "(IJI)B"⟩ : MethodName) = true := plainFor_of_name (by first | (simp [plainName, overriddenIn]; done) | decide +kernel)
theorem ef_conP (m : MethodId) (c1 : Int32) (c2 : Int64) (c3 : Int32) : entryFrame m #[(.int c1), (.long c2), (.int c3)] 5 = mkF m 0 #[.val (.int c1), .val (.long c2), .second, .val (.int c3), .unset] [] := by first | (simp [entryFrame, mkF, argsToLocals, Value.category]; done) | rfl
set_option maxRecDepth 65536 in
set_option maxHeartbeats 4000000 in
theorem conP (l : Launch) (Z : State) (a0 : Array Value) (hw : ∀ d ∈ tables_1, d.before a0 Z = true) (c1 : Int32) (c2 : Int64) (c3 : Int32) (h0 : Heap) :
    own_Con l Z (⟨"com/example/steerage/steerage/agent/HttpHeadEndPinLaw", "pick", "(IJI)B"⟩ : MethodName) method_2_code 5 (some .byte) ({ frames := 0, cells := 0, slots := 0, locals := 0 } : Room) #[(.int c1), (.long c2), (.int c3)] h0 (fun v h L => ∃ z : Int32, v = some (.int z) ∧ (nar .byte z = z) ∧ L = [] ∧ h = h0) := by
  refine own_Con_of pn_1 ?_
  intro p e s m below meth c s₁ X0 hx hby hml hret hlk hnm hown hZ e0
  have hown : s.vm.findClass "com/example/steerage/steerage/agent/HttpHeadEndPinLaw" = some m.cls := hown
  have hml : c.maxLocals = 5 := hml
  show own_WP _ _ _ _ _ _ _ (s₁.setTop (entryFrame m #[(.int c1), (.long c2), (.int c3)] 5))
  rw [ef_conP m c1 c2 c3]
  refine own_iloadN (pc' := 1) X0 hx (hb hby d1_0) rfl rfl ?_
  refine own_iconst (pc' := 2) X0 hx (2 : Int32) (hb hby d1_1) rfl rfl ?_
  refine own_iloadN (pc' := 3) X0 hx (hb hby d1_2) rfl rfl ?_
  refine own_imul (pc' := 4) X0 hx (hb hby d1_3) rfl ?_
  refine own_iushr (pc' := 5) X0 hx (hb hby d1_4) rfl ?_
  refine own_iconst (pc' := 6) X0 hx (3 : Int32) (hb hby d1_5) rfl rfl ?_
  refine own_iand (pc' := 7) X0 hx (hb hby d1_6) rfl ?_
  obtain ⟨v1, hv1⟩ : ∃ z : Int32, z = (((c1.toUInt32 >>> (((2 : Int32) * c3) &&& 31).toUInt32).toInt32) &&& (3 : Int32)) := ⟨_, rfl⟩
  refine own_istore (pc' := 9) (l' := #[.val (.int c1), .val (.long c2), .second, .val (.int c3), .val (.int v1)]) X0 hx (hb hby d1_7) hv1 rfl rfl ?_
  refine own_iload (pc' := 11) X0 hx (hb hby d1_9) rfl rfl ?_
  refine own_if_ne (pt := 17) (pf := 14) X0 hx (hb hby d1_11) rfl (by decide) rfl (fun hc11 => ?_) (fun hc11 => ?_)
  · skip
    refine own_iload (pc' := 19) X0 hx (hb hby d1_17) rfl rfl ?_
    refine own_iconst (pc' := 20) X0 hx (1 : Int32) (hb hby d1_19) rfl rfl ?_
    refine own_icmp_ne (pt := 26) (pf := 23) X0 hx (hb hby d1_20) rfl (by decide) rfl (fun hc20 => ?_) (fun hc20 => ?_)
    · skip
      refine own_lloadN (pc' := 27) X0 hx (hb hby d1_26) rfl rfl ?_
      refine own_bipush (pc' := 29) X0 hx (8 : Int32) (hb hby d1_27) rfl rfl ?_
      refine own_iloadN (pc' := 30) X0 hx (hb hby d1_29) rfl rfl ?_
      refine own_imul (pc' := 31) X0 hx (hb hby d1_30) rfl ?_
      refine own_lushr (pc' := 32) X0 hx (hb hby d1_31) rfl ?_
      refine own_l2i (pc' := 33) X0 hx (hb hby d1_32) rfl ?_
      refine own_i2b (pc' := 34) X0 hx (hb hby d1_33) rfl ?_
      refine own_retN X0 hx hlk (t := .byte) (by decide) hret (hb hby d1_34) (by decide) (by decide) ?_
      exact ⟨_, rfl, own_isb _, rfl, e0⟩
    · skip
      refine own_bipush (pc' := 25) X0 hx (13 : Int32) (hb hby d1_23) rfl rfl ?_
      refine own_retN X0 hx hlk (t := .byte) (by decide) hret (hb hby d1_25) (by decide) (by decide) ?_
      exact ⟨_, rfl, own_isb _, rfl, e0⟩
  · skip
    refine own_bipush (pc' := 16) X0 hx (10 : Int32) (hb hby d1_14) rfl rfl ?_
    refine own_retN X0 hx hlk (t := .byte) (by decide) hret (hb hby d1_16) (by decide) (by decide) ?_
    exact ⟨_, rfl, own_isb _, rfl, e0⟩
theorem d3_0 : decode method_3_code 0 = .ok (.iload_n 2, 1) := by decide +kernel
theorem d3_1 : decode method_3_code 1 = .ok (.iload_n 1, 1) := by decide +kernel
theorem d3_2 : decode method_3_code 2 = .ok (.if_icmp .ge 15, 3) := by decide +kernel
theorem d3_5 : decode method_3_code 5 = .ok (.aload_n 0, 1) := by decide +kernel
theorem d3_6 : decode method_3_code 6 = .ok (.iload_n 2, 1) := by decide +kernel
theorem d3_7 : decode method_3_code 7 = .ok (.baload, 1) := by decide +kernel
theorem d3_8 : decode method_3_code 8 = .ok (.bipush 10, 2) := by decide +kernel
theorem d3_10 : decode method_3_code 10 = .ok (.if_icmp .ne 7, 3) := by decide +kernel
theorem d3_13 : decode method_3_code 13 = .ok (.iconst 1, 1) := by decide +kernel
theorem d3_14 : decode method_3_code 14 = .ok (.goto 4, 3) := by decide +kernel
theorem d3_17 : decode method_3_code 17 = .ok (.iconst 0, 1) := by decide +kernel
theorem d3_18 : decode method_3_code 18 = .ok (.ireturn, 1) := by decide +kernel
theorem pn_3 : plainFor (⟨"com/example/steerage/steerage/agent/HttpHeadEndPinLaw", "lf", "([BII)Z"⟩ : MethodName) = true := plainFor_of_name (by first | (simp [plainName, overriddenIn]; done) | decide +kernel)
theorem ef_conLf0 (m : MethodId) (a1 : Addr) (c1 : Int32) : entryFrame m #[(.ref a1), (.int c1), (.int (0 : Int32))] 3 = mkF m 0 #[.val (.ref a1), .val (.int c1), .val (.int (0 : Int32))] [] := by first | (simp [entryFrame, mkF, argsToLocals, Value.category]; done) | rfl
set_option maxRecDepth 65536 in
set_option maxHeartbeats 4000000 in
theorem conLf0 (l : Launch) (Z : State) (a0 : Array Value) (hw : ∀ d ∈ tables_1, d.before a0 Z = true) (a1 : Addr) (c1 : Int32) (h0 : Heap) (kk : ClassId) (bs : List Int32) (V1 : Arv Z h0 a1 kk .byte 8 (bs.map Value.int) (.int 0)) (hl : 0 ≤ c1.toInt) :
    own_Con l Z (⟨"com/example/steerage/steerage/agent/HttpHeadEndPinLaw", "lf", "([BII)Z"⟩ : MethodName) method_3_code 3 (some .boolean) ({ frames := 0, cells := 0, slots := 0, locals := 0 } : Room) #[(.ref a1), (.int c1), (.int (0 : Int32))] h0 (fun v h L => ∃ z : Int32, v = some (.int z) ∧ (z = own_bb (0 < c1.toInt.toNat ∧ own_at bs 0 = 10)) ∧ L = [] ∧ h = h0) := by
  refine own_Con_of pn_3 ?_
  intro p e s m below meth c s₁ X0 hx hby hml hret hlk hnm hown hZ e0
  have hown : s.vm.findClass "com/example/steerage/steerage/agent/HttpHeadEndPinLaw" = some m.cls := hown
  have hml : c.maxLocals = 3 := hml
  show own_WP _ _ _ _ _ _ _ (s₁.setTop (entryFrame m #[(.ref a1), (.int c1), (.int (0 : Int32))] 3))
  rw [ef_conLf0 m a1 c1]
  refine own_iloadN (pc' := 1) X0 hx (hb hby d3_0) rfl rfl ?_
  refine own_iloadN (pc' := 2) X0 hx (hb hby d3_1) rfl rfl ?_
  refine own_icmp_ge (pt := 17) (pf := 5) X0 hx (hb hby d3_2) rfl (by decide) rfl (fun hc2 => ?_) (fun hc2 => ?_)
  · skip
    refine own_iconst (pc' := 18) X0 hx (0 : Int32) (hb hby d3_17) rfl rfl ?_
    refine own_retN X0 hx hlk (t := .boolean) (by decide) hret (hb hby d3_18) (by decide) (by decide) ?_
    refine ⟨(0 : Int32), rfl, ?_, rfl, e0⟩
    have q := own_lit (i := 0) (v := 0) hl (by decide)
    rw [own_bb, if_neg (fun z => hc2 (q.mpr z.1))]
  · skip
    refine own_aloadN (pc' := 6) X0 hx (hb hby d3_5) rfl rfl rfl ?_
    refine own_iloadN (pc' := 7) X0 hx (hb hby d3_6) rfl rfl ?_
    refine own_baload (pc' := 8) (v := (.int (own_at bs 0))) X0 hx hZ e0 V1 ⟨by decide, by decide⟩ (own_getm bs 0) (hb hby d3_7) rfl ?_
    refine own_bipush (pc' := 10) X0 hx (10 : Int32) (hb hby d3_8) rfl rfl ?_
    refine own_icmp_ne (pt := 17) (pf := 13) X0 hx (hb hby d3_10) rfl (by decide) rfl (fun hc10 => ?_) (fun hc10 => ?_)
    · skip
      refine own_iconst (pc' := 18) X0 hx (0 : Int32) (hb hby d3_17) rfl rfl ?_
      refine own_retN X0 hx hlk (t := .boolean) (by decide) hret (hb hby d3_18) (by decide) (by decide) ?_
      refine ⟨(0 : Int32), rfl, ?_, rfl, e0⟩
      have q := own_lit (i := 0) (v := 0) hl (by decide)
      rw [own_bb, if_neg (fun z => hc10 z.2)]
    · skip
      refine own_iconst (pc' := 14) X0 hx (1 : Int32) (hb hby d3_13) rfl rfl ?_
      refine own_goto (pc' := 18) X0 hx (hb hby d3_14) (by decide) rfl ?_
      refine own_retN X0 hx hlk (t := .boolean) (by decide) hret (hb hby d3_18) (by decide) (by decide) ?_
      refine ⟨(1 : Int32), rfl, ?_, rfl, e0⟩
      have q := own_lit (i := 0) (v := 0) hl (by decide)
      rw [own_bb, if_pos ⟨q.mp hc2, hc10⟩]
theorem d4_0 : decode method_4_code 0 = .ok (.iload_n 1, 1) := by decide +kernel
theorem d4_1 : decode method_4_code 1 = .ok (.ifCond .ne 5, 3) := by decide +kernel
theorem d4_4 : decode method_4_code 4 = .ok (.iconst 1, 1) := by decide +kernel
theorem d4_5 : decode method_4_code 5 = .ok (.ireturn, 1) := by decide +kernel
theorem d4_6 : decode method_4_code 6 = .ok (.aload_n 0, 1) := by decide +kernel
theorem d4_7 : decode method_4_code 7 = .ok (.iload_n 1, 1) := by decide +kernel
theorem d4_8 : decode method_4_code 8 = .ok (.iconst 1, 1) := by decide +kernel
theorem d4_9 : decode method_4_code 9 = .ok (.isub, 1) := by decide +kernel
theorem d4_10 : decode method_4_code 10 = .ok (.baload, 1) := by decide +kernel
theorem d4_11 : decode method_4_code 11 = .ok (.bipush 10, 2) := by decide +kernel
theorem d4_13 : decode method_4_code 13 = .ok (.if_icmp .ne 5, 3) := by decide +kernel
theorem d4_16 : decode method_4_code 16 = .ok (.iconst 1, 1) := by decide +kernel
theorem d4_17 : decode method_4_code 17 = .ok (.ireturn, 1) := by decide +kernel
theorem d4_18 : decode method_4_code 18 = .ok (.aload_n 0, 1) := by decide +kernel
theorem d4_19 : decode method_4_code 19 = .ok (.iload_n 1, 1) := by decide +kernel
theorem d4_20 : decode method_4_code 20 = .ok (.iconst 1, 1) := by decide +kernel
theorem d4_21 : decode method_4_code 21 = .ok (.isub, 1) := by decide +kernel
theorem d4_22 : decode method_4_code 22 = .ok (.baload, 1) := by decide +kernel
theorem d4_23 : decode method_4_code 23 = .ok (.bipush 13, 2) := by decide +kernel
theorem d4_25 : decode method_4_code 25 = .ok (.if_icmp .ne 26, 3) := by decide +kernel
theorem d4_28 : decode method_4_code 28 = .ok (.iload_n 1, 1) := by decide +kernel
theorem d4_29 : decode method_4_code 29 = .ok (.iconst 1, 1) := by decide +kernel
theorem d4_30 : decode method_4_code 30 = .ok (.if_icmp .ne 5, 3) := by decide +kernel
theorem d4_33 : decode method_4_code 33 = .ok (.iconst 1, 1) := by decide +kernel
theorem d4_34 : decode method_4_code 34 = .ok (.ireturn, 1) := by decide +kernel
theorem d4_35 : decode method_4_code 35 = .ok (.aload_n 0, 1) := by decide +kernel
theorem d4_36 : decode method_4_code 36 = .ok (.iload_n 1, 1) := by decide +kernel
theorem d4_37 : decode method_4_code 37 = .ok (.iconst 2, 1) := by decide +kernel
theorem d4_38 : decode method_4_code 38 = .ok (.isub, 1) := by decide +kernel
theorem d4_39 : decode method_4_code 39 = .ok (.baload, 1) := by decide +kernel
theorem d4_40 : decode method_4_code 40 = .ok (.bipush 10, 2) := by decide +kernel
theorem d4_42 : decode method_4_code 42 = .ok (.if_icmp .ne 7, 3) := by decide +kernel
theorem d4_45 : decode method_4_code 45 = .ok (.iconst 1, 1) := by decide +kernel
theorem d4_46 : decode method_4_code 46 = .ok (.goto 4, 3) := by decide +kernel
theorem d4_49 : decode method_4_code 49 = .ok (.iconst 0, 1) := by decide +kernel
theorem d4_50 : decode method_4_code 50 = .ok (.ireturn, 1) := by decide +kernel
theorem d4_51 : decode method_4_code 51 = .ok (.iconst 0, 1) := by decide +kernel
theorem d4_52 : decode method_4_code 52 = .ok (.ireturn, 1) := by decide +kernel
theorem pn_4 : plainFor (⟨"com/example/steerage/steerage/agent/HttpHeadEndPinLaw", "emptyAt", "([BI)Z"⟩ : MethodName) = true := plainFor_of_name (by first | (simp [plainName, overriddenIn]; done) | decide +kernel)
theorem ef_conEm0 (m : MethodId) (a1 : Addr) : entryFrame m #[(.ref a1), (.int (0 : Int32))] 2 = mkF m 0 #[.val (.ref a1), .val (.int (0 : Int32))] [] := by first | (simp [entryFrame, mkF, argsToLocals, Value.category]; done) | rfl
set_option maxRecDepth 65536 in
set_option maxHeartbeats 4000000 in
theorem conEm0 (l : Launch) (Z : State) (a0 : Array Value) (hw : ∀ d ∈ tables_1, d.before a0 Z = true) (a1 : Addr) (h0 : Heap) (kk : ClassId) (bs : List Int32) (V1 : Arv Z h0 a1 kk .byte 8 (bs.map Value.int) (.int 0)) :
    own_Con l Z (⟨"com/example/steerage/steerage/agent/HttpHeadEndPinLaw", "emptyAt", "([BI)Z"⟩ : MethodName) method_4_code 2 (some .boolean) ({ frames := 0, cells := 0, slots := 0, locals := 0 } : Room) #[(.ref a1), (.int (0 : Int32))] h0 (fun v h L => ∃ z : Int32, v = some (.int z) ∧ (z = own_bb (own_E (own_at bs) 0)) ∧ L = [] ∧ h = h0) := by
  refine own_Con_of pn_4 ?_
  intro p e s m below meth c s₁ X0 hx hby hml hret hlk hnm hown hZ e0
  have hown : s.vm.findClass "com/example/steerage/steerage/agent/HttpHeadEndPinLaw" = some m.cls := hown
  have hml : c.maxLocals = 2 := hml
  show own_WP _ _ _ _ _ _ _ (s₁.setTop (entryFrame m #[(.ref a1), (.int (0 : Int32))] 2))
  rw [ef_conEm0 m a1]
  refine own_iloadN (pc' := 1) X0 hx (hb hby d4_0) rfl rfl ?_
  refine own_if_ne (pt := 6) (pf := 4) X0 hx (hb hby d4_1) rfl (by decide) rfl (fun hc1 => absurd (by decide) hc1) (fun hc1 => ?_)
  refine own_iconst (pc' := 5) X0 hx (1 : Int32) (hb hby d4_4) rfl rfl ?_
  refine own_retN X0 hx hlk (t := .boolean) (by decide) hret (hb hby d4_5) (by decide) (by decide) ?_
  refine ⟨(1 : Int32), rfl, ?_, rfl, e0⟩
  simp [own_bb, own_E]
theorem d2_0 : decode method_6_code 0 = .ok (.aload_n 0, 1) := by decide +kernel
theorem d2_1 : decode method_6_code 1 = .ok (.iload_n 1, 1) := by decide +kernel
theorem d2_2 : decode method_6_code 2 = .ok (.iload_n 2, 1) := by decide +kernel
theorem d2_3 : decode method_6_code 3 = .ok (.invokestatic 7, 3) := by decide +kernel
theorem d2_6 : decode method_6_code 6 = .ok (.ifCond .eq 15, 3) := by decide +kernel
theorem d2_9 : decode method_6_code 9 = .ok (.aload_n 0, 1) := by decide +kernel
theorem d2_10 : decode method_6_code 10 = .ok (.iload_n 2, 1) := by decide +kernel
theorem d2_11 : decode method_6_code 11 = .ok (.invokestatic 13, 3) := by decide +kernel
theorem d2_14 : decode method_6_code 14 = .ok (.ifCond .ne 7, 3) := by decide +kernel
theorem d2_17 : decode method_6_code 17 = .ok (.iconst 1, 1) := by decide +kernel
theorem d2_18 : decode method_6_code 18 = .ok (.goto 4, 3) := by decide +kernel
theorem d2_21 : decode method_6_code 21 = .ok (.iconst 0, 1) := by decide +kernel
theorem d2_22 : decode method_6_code 22 = .ok (.ireturn, 1) := by decide +kernel
theorem pn_2 : plainFor (⟨"com/example/steerage/steerage/agent/HttpHeadEndPinLaw", "full", "([BII)Z"⟩ : MethodName) = true := plainFor_of_name (by first | (simp [plainName, overriddenIn]; done) | decide +kernel)
theorem ef_conF0 (m : MethodId) (a1 : Addr) (c1 : Int32) : entryFrame m #[(.ref a1), (.int c1), (.int (0 : Int32))] 3 = mkF m 0 #[.val (.ref a1), .val (.int c1), .val (.int (0 : Int32))] [] := by first | (simp [entryFrame, mkF, argsToLocals, Value.category]; done) | rfl
theorem pd0 : parseMethodDescriptor "([BII)Z" = some ⟨[(.array .byte), .int, .int], some .boolean⟩ := by decide +kernel
theorem pd1 : parseMethodDescriptor "([BI)Z" = some ⟨[(.array .byte), .int], some .boolean⟩ := by decide +kernel
set_option maxRecDepth 65536 in
set_option maxHeartbeats 4000000 in
theorem conF0 (l : Launch) (Z : State) (a0 : Array Value) (hw : ∀ d ∈ tables_1, d.before a0 Z = true) (a1 : Addr) (c1 : Int32) (h0 : Heap) (kk : ClassId) (bs : List Int32) (V1 : Arv Z h0 a1 kk .byte 8 (bs.map Value.int) (.int 0)) (hl : 0 ≤ c1.toInt) :
    own_Con l Z (⟨"com/example/steerage/steerage/agent/HttpHeadEndPinLaw", "full", "([BII)Z"⟩ : MethodName) method_6_code 3 (some .boolean) ({ frames := 1, cells := 0, slots := 0, locals := 14 } : Room) #[(.ref a1), (.int c1), (.int (0 : Int32))] h0 (fun v h L => ∃ z : Int32, v = some (.int z) ∧ (z = own_bb ((0 < c1.toInt.toNat ∧ own_at bs 0 = 10) ∧ ¬ own_E (own_at bs) 0)) ∧ L = [] ∧ h = h0) := by
  refine own_Con_of pn_2 ?_
  intro p e s m below meth c s₁ X0 hx hby hml hret hlk hnm hown hZ e0
  have hown : s.vm.findClass "com/example/steerage/steerage/agent/HttpHeadEndPinLaw" = some m.cls := hown
  have hml : c.maxLocals = 3 := hml
  show own_WP _ _ _ _ _ _ _ (s₁.setTop (entryFrame m #[(.ref a1), (.int c1), (.int (0 : Int32))] 3))
  rw [ef_conF0 m a1 c1]
  refine own_aloadN (pc' := 1) X0 hx (hb hby d2_0) rfl rfl rfl ?_
  refine own_iloadN (pc' := 2) X0 hx (hb hby d2_1) rfl rfl ?_
  refine own_iloadN (pc' := 3) X0 hx (hb hby d2_2) rfl rfl ?_
  refine own_callS (pc' := 6) (W := 0) (y := (⟨"com/example/steerage/steerage/agent/HttpHeadEndPinLaw", "lf", "([BII)Z"⟩ : MethodName)) X0 hx hZ hown (own_w hw 9 rfl) (own_w hw 10 rfl) (own_w hw 3 rfl) (own_w hw 11 rfl) (by decide) (conLf0 l Z a0 hw a1 c1 _ kk bs V1 hl) e0 pd0 [(.ref a1), (.int c1), (.int (0 : Int32))] [] rfl rfl rfl (Nat.le_of_eq rfl) (by decide) (by decide) (by rw [hml]; rfl) (hb hby d2_3) (by decide) (by decide) rfl ?_
  intro v1 T1 L1 X1 q1
  obtain ⟨r1, rfl, hr1, rfl, e1⟩ := q1
  show own_WP _ _ _ _ _ _ _ (T1.setTop (mkF m 6 #[.val (.ref a1), .val (.int c1), .val (.int (0 : Int32))] [(.int r1)]))
  refine own_if_eq (pt := 21) (pf := 9) X1 hx (hb hby d2_6) rfl (by decide) rfl (fun hc6 => ?_) (fun hc6 => ?_)
  · skip
    refine own_iconst (pc' := 22) X1 hx (0 : Int32) (hb hby d2_21) rfl rfl ?_
    refine own_retN X1 hx hlk (t := .boolean) (by decide) hret (hb hby d2_22) (by decide) (by decide) ?_
    refine ⟨(0 : Int32), rfl, ?_, rfl, e1⟩
    have q1 := own_bb0 hr1 hc6
    rw [own_bb, if_neg (fun q => q1 q.1)]
  · skip
    refine own_aloadN (pc' := 10) X1 hx (hb hby d2_9) rfl rfl rfl ?_
    refine own_iloadN (pc' := 11) X1 hx (hb hby d2_10) rfl rfl ?_
    refine own_callS (pc' := 14) (W := 0) (y := (⟨"com/example/steerage/steerage/agent/HttpHeadEndPinLaw", "emptyAt", "([BI)Z"⟩ : MethodName)) X1 hx hZ hown (own_w hw 12 rfl) (own_w hw 13 rfl) (own_w hw 3 rfl) (own_w hw 14 rfl) (by decide) (conEm0 l Z a0 hw a1 _ kk bs V1) e1 pd1 [(.ref a1), (.int (0 : Int32))] [] rfl rfl rfl (Nat.le_of_eq rfl) (by decide) (by decide) (by rw [hml]; rfl) (hb hby d2_11) (by decide) (by decide) rfl ?_
    intro v2 T2 L2 X2 q2
    obtain ⟨r2, rfl, hr2, rfl, e2⟩ := q2
    show own_WP _ _ _ _ _ _ _ (T2.setTop (mkF m 14 #[.val (.ref a1), .val (.int c1), .val (.int (0 : Int32))] [(.int r2)]))
    refine own_if_ne (pt := 21) (pf := 17) X2 hx (hb hby d2_14) rfl (by decide) rfl (fun hc14 => ?_) (fun hc14 => ?_)
    · skip
      refine own_iconst (pc' := 22) X2 hx (0 : Int32) (hb hby d2_21) rfl rfl ?_
      refine own_retN X2 hx hlk (t := .boolean) (by decide) hret (hb hby d2_22) (by decide) (by decide) ?_
      refine ⟨(0 : Int32), rfl, ?_, rfl, e2⟩
      have q1 := own_bb1 hr1 hc6
      have q2 := own_bb1 hr2 hc14
      rw [own_bb, if_neg (fun q => q.2 q2)]
    · skip
      refine own_iconst (pc' := 18) X2 hx (1 : Int32) (hb hby d2_17) rfl rfl ?_
      refine own_goto (pc' := 22) X2 hx (hb hby d2_18) (by decide) rfl ?_
      refine own_retN X2 hx hlk (t := .boolean) (by decide) hret (hb hby d2_22) (by decide) (by decide) ?_
      refine ⟨(1 : Int32), rfl, ?_, rfl, e2⟩
      have q1 := own_bb1 hr1 hc6
      have q2 := own_bb0 hr2 hc14
      rw [own_bb, if_pos ⟨q1, q2⟩]
theorem d7_0 : decode method_5_code 0 = .ok (.aload_n 0, 1) := by decide +kernel
theorem d7_1 : decode method_5_code 1 = .ok (.iload_n 1, 1) := by decide +kernel
theorem d7_2 : decode method_5_code 2 = .ok (.iload_n 2, 1) := by decide +kernel
theorem d7_3 : decode method_5_code 3 = .ok (.invokestatic 7, 3) := by decide +kernel
theorem d7_6 : decode method_5_code 6 = .ok (.ifCond .eq 15, 3) := by decide +kernel
theorem d7_9 : decode method_5_code 9 = .ok (.aload_n 0, 1) := by decide +kernel
theorem d7_10 : decode method_5_code 10 = .ok (.iload_n 2, 1) := by decide +kernel
theorem d7_11 : decode method_5_code 11 = .ok (.invokestatic 13, 3) := by decide +kernel
theorem d7_14 : decode method_5_code 14 = .ok (.ifCond .eq 7, 3) := by decide +kernel
theorem d7_17 : decode method_5_code 17 = .ok (.iconst 1, 1) := by decide +kernel
theorem d7_18 : decode method_5_code 18 = .ok (.goto 4, 3) := by decide +kernel
theorem d7_21 : decode method_5_code 21 = .ok (.iconst 0, 1) := by decide +kernel
theorem d7_22 : decode method_5_code 22 = .ok (.ireturn, 1) := by decide +kernel
theorem pn_7 : plainFor (⟨"com/example/steerage/steerage/agent/HttpHeadEndPinLaw", "blank", "([BII)Z"⟩ : MethodName) = true := plainFor_of_name (by first | (simp [plainName, overriddenIn]; done) | decide +kernel)
theorem ef_conB0 (m : MethodId) (a1 : Addr) (c1 : Int32) : entryFrame m #[(.ref a1), (.int c1), (.int (0 : Int32))] 3 = mkF m 0 #[.val (.ref a1), .val (.int c1), .val (.int (0 : Int32))] [] := by first | (simp [entryFrame, mkF, argsToLocals, Value.category]; done) | rfl
set_option maxRecDepth 65536 in
set_option maxHeartbeats 4000000 in
theorem conB0 (l : Launch) (Z : State) (a0 : Array Value) (hw : ∀ d ∈ tables_1, d.before a0 Z = true) (a1 : Addr) (c1 : Int32) (h0 : Heap) (kk : ClassId) (bs : List Int32) (V1 : Arv Z h0 a1 kk .byte 8 (bs.map Value.int) (.int 0)) (hl : 0 ≤ c1.toInt) :
    own_Con l Z (⟨"com/example/steerage/steerage/agent/HttpHeadEndPinLaw", "blank", "([BII)Z"⟩ : MethodName) method_5_code 3 (some .boolean) ({ frames := 1, cells := 0, slots := 0, locals := 14 } : Room) #[(.ref a1), (.int c1), (.int (0 : Int32))] h0 (fun v h L => ∃ z : Int32, v = some (.int z) ∧ (z = own_bb ((0 < c1.toInt.toNat ∧ own_at bs 0 = 10) ∧ own_E (own_at bs) 0)) ∧ L = [] ∧ h = h0) := by
  refine own_Con_of pn_7 ?_
  intro p e s m below meth c s₁ X0 hx hby hml hret hlk hnm hown hZ e0
  have hown : s.vm.findClass "com/example/steerage/steerage/agent/HttpHeadEndPinLaw" = some m.cls := hown
  have hml : c.maxLocals = 3 := hml
  show own_WP _ _ _ _ _ _ _ (s₁.setTop (entryFrame m #[(.ref a1), (.int c1), (.int (0 : Int32))] 3))
  rw [ef_conB0 m a1 c1]
  refine own_aloadN (pc' := 1) X0 hx (hb hby d7_0) rfl rfl rfl ?_
  refine own_iloadN (pc' := 2) X0 hx (hb hby d7_1) rfl rfl ?_
  refine own_iloadN (pc' := 3) X0 hx (hb hby d7_2) rfl rfl ?_
  refine own_callS (pc' := 6) (W := 0) (y := (⟨"com/example/steerage/steerage/agent/HttpHeadEndPinLaw", "lf", "([BII)Z"⟩ : MethodName)) X0 hx hZ hown (own_w hw 9 rfl) (own_w hw 10 rfl) (own_w hw 3 rfl) (own_w hw 11 rfl) (by decide) (conLf0 l Z a0 hw a1 c1 _ kk bs V1 hl) e0 pd0 [(.ref a1), (.int c1), (.int (0 : Int32))] [] rfl rfl rfl (Nat.le_of_eq rfl) (by decide) (by decide) (by rw [hml]; rfl) (hb hby d7_3) (by decide) (by decide) rfl ?_
  intro v1 T1 L1 X1 q1
  obtain ⟨r1, rfl, hr1, rfl, e1⟩ := q1
  show own_WP _ _ _ _ _ _ _ (T1.setTop (mkF m 6 #[.val (.ref a1), .val (.int c1), .val (.int (0 : Int32))] [(.int r1)]))
  refine own_if_eq (pt := 21) (pf := 9) X1 hx (hb hby d7_6) rfl (by decide) rfl (fun hc6 => ?_) (fun hc6 => ?_)
  · skip
    refine own_iconst (pc' := 22) X1 hx (0 : Int32) (hb hby d7_21) rfl rfl ?_
    refine own_retN X1 hx hlk (t := .boolean) (by decide) hret (hb hby d7_22) (by decide) (by decide) ?_
    refine ⟨(0 : Int32), rfl, ?_, rfl, e1⟩
    have q1 := own_bb0 hr1 hc6
    rw [own_bb, if_neg (fun q => q1 q.1)]
  · skip
    refine own_aloadN (pc' := 10) X1 hx (hb hby d7_9) rfl rfl rfl ?_
    refine own_iloadN (pc' := 11) X1 hx (hb hby d7_10) rfl rfl ?_
    refine own_callS (pc' := 14) (W := 0) (y := (⟨"com/example/steerage/steerage/agent/HttpHeadEndPinLaw", "emptyAt", "([BI)Z"⟩ : MethodName)) X1 hx hZ hown (own_w hw 12 rfl) (own_w hw 13 rfl) (own_w hw 3 rfl) (own_w hw 14 rfl) (by decide) (conEm0 l Z a0 hw a1 _ kk bs V1) e1 pd1 [(.ref a1), (.int (0 : Int32))] [] rfl rfl rfl (Nat.le_of_eq rfl) (by decide) (by decide) (by rw [hml]; rfl) (hb hby d7_11) (by decide) (by decide) rfl ?_
    intro v2 T2 L2 X2 q2
    obtain ⟨r2, rfl, hr2, rfl, e2⟩ := q2
    show own_WP _ _ _ _ _ _ _ (T2.setTop (mkF m 14 #[.val (.ref a1), .val (.int c1), .val (.int (0 : Int32))] [(.int r2)]))
    refine own_if_eq (pt := 21) (pf := 17) X2 hx (hb hby d7_14) rfl (by decide) rfl (fun hc14 => ?_) (fun hc14 => ?_)
    · skip
      refine own_iconst (pc' := 22) X2 hx (0 : Int32) (hb hby d7_21) rfl rfl ?_
      refine own_retN X2 hx hlk (t := .boolean) (by decide) hret (hb hby d7_22) (by decide) (by decide) ?_
      refine ⟨(0 : Int32), rfl, ?_, rfl, e2⟩
      have q1 := own_bb1 hr1 hc6
      have q2 := own_bb0 hr2 hc14
      rw [own_bb, if_neg (fun q => q2 q.2)]
    · skip
      refine own_iconst (pc' := 18) X2 hx (1 : Int32) (hb hby d7_17) rfl rfl ?_
      refine own_goto (pc' := 22) X2 hx (hb hby d7_18) (by decide) rfl ?_
      refine own_retN X2 hx hlk (t := .boolean) (by decide) hret (hb hby d7_22) (by decide) (by decide) ?_
      refine ⟨(1 : Int32), rfl, ?_, rfl, e2⟩
      have q1 := own_bb1 hr1 hc6
      have q2 := own_bb1 hr2 hc14
      rw [own_bb, if_pos ⟨q1, q2⟩]
theorem ef_conLf1 (m : MethodId) (a1 : Addr) (c1 : Int32) : entryFrame m #[(.ref a1), (.int c1), (.int (1 : Int32))] 3 = mkF m 0 #[.val (.ref a1), .val (.int c1), .val (.int (1 : Int32))] [] := by first | (simp [entryFrame, mkF, argsToLocals, Value.category]; done) | rfl
set_option maxRecDepth 65536 in
set_option maxHeartbeats 4000000 in
theorem conLf1 (l : Launch) (Z : State) (a0 : Array Value) (hw : ∀ d ∈ tables_1, d.before a0 Z = true) (a1 : Addr) (c1 : Int32) (h0 : Heap) (kk : ClassId) (bs : List Int32) (V1 : Arv Z h0 a1 kk .byte 8 (bs.map Value.int) (.int 0)) (hl : 0 ≤ c1.toInt) :
    own_Con l Z (⟨"com/example/steerage/steerage/agent/HttpHeadEndPinLaw", "lf", "([BII)Z"⟩ : MethodName) method_3_code 3 (some .boolean) ({ frames := 0, cells := 0, slots := 0, locals := 0 } : Room) #[(.ref a1), (.int c1), (.int (1 : Int32))] h0 (fun v h L => ∃ z : Int32, v = some (.int z) ∧ (z = own_bb (1 < c1.toInt.toNat ∧ own_at bs 1 = 10)) ∧ L = [] ∧ h = h0) := by
  refine own_Con_of pn_3 ?_
  intro p e s m below meth c s₁ X0 hx hby hml hret hlk hnm hown hZ e0
  have hown : s.vm.findClass "com/example/steerage/steerage/agent/HttpHeadEndPinLaw" = some m.cls := hown
  have hml : c.maxLocals = 3 := hml
  show own_WP _ _ _ _ _ _ _ (s₁.setTop (entryFrame m #[(.ref a1), (.int c1), (.int (1 : Int32))] 3))
  rw [ef_conLf1 m a1 c1]
  refine own_iloadN (pc' := 1) X0 hx (hb hby d3_0) rfl rfl ?_
  refine own_iloadN (pc' := 2) X0 hx (hb hby d3_1) rfl rfl ?_
  refine own_icmp_ge (pt := 17) (pf := 5) X0 hx (hb hby d3_2) rfl (by decide) rfl (fun hc2 => ?_) (fun hc2 => ?_)
  · skip
    refine own_iconst (pc' := 18) X0 hx (0 : Int32) (hb hby d3_17) rfl rfl ?_
    refine own_retN X0 hx hlk (t := .boolean) (by decide) hret (hb hby d3_18) (by decide) (by decide) ?_
    refine ⟨(0 : Int32), rfl, ?_, rfl, e0⟩
    have q := own_lit (i := 1) (v := 1) hl (by decide)
    rw [own_bb, if_neg (fun z => hc2 (q.mpr z.1))]
  · skip
    refine own_aloadN (pc' := 6) X0 hx (hb hby d3_5) rfl rfl rfl ?_
    refine own_iloadN (pc' := 7) X0 hx (hb hby d3_6) rfl rfl ?_
    refine own_baload (pc' := 8) (v := (.int (own_at bs 1))) X0 hx hZ e0 V1 ⟨by decide, by decide⟩ (own_getm bs 1) (hb hby d3_7) rfl ?_
    refine own_bipush (pc' := 10) X0 hx (10 : Int32) (hb hby d3_8) rfl rfl ?_
    refine own_icmp_ne (pt := 17) (pf := 13) X0 hx (hb hby d3_10) rfl (by decide) rfl (fun hc10 => ?_) (fun hc10 => ?_)
    · skip
      refine own_iconst (pc' := 18) X0 hx (0 : Int32) (hb hby d3_17) rfl rfl ?_
      refine own_retN X0 hx hlk (t := .boolean) (by decide) hret (hb hby d3_18) (by decide) (by decide) ?_
      refine ⟨(0 : Int32), rfl, ?_, rfl, e0⟩
      have q := own_lit (i := 1) (v := 1) hl (by decide)
      rw [own_bb, if_neg (fun z => hc10 z.2)]
    · skip
      refine own_iconst (pc' := 14) X0 hx (1 : Int32) (hb hby d3_13) rfl rfl ?_
      refine own_goto (pc' := 18) X0 hx (hb hby d3_14) (by decide) rfl ?_
      refine own_retN X0 hx hlk (t := .boolean) (by decide) hret (hb hby d3_18) (by decide) (by decide) ?_
      refine ⟨(1 : Int32), rfl, ?_, rfl, e0⟩
      have q := own_lit (i := 1) (v := 1) hl (by decide)
      rw [own_bb, if_pos ⟨q.mp hc2, hc10⟩]
theorem ef_conEm1 (m : MethodId) (a1 : Addr) : entryFrame m #[(.ref a1), (.int (1 : Int32))] 2 = mkF m 0 #[.val (.ref a1), .val (.int (1 : Int32))] [] := by first | (simp [entryFrame, mkF, argsToLocals, Value.category]; done) | rfl
set_option maxRecDepth 65536 in
set_option maxHeartbeats 4000000 in
theorem conEm1 (l : Launch) (Z : State) (a0 : Array Value) (hw : ∀ d ∈ tables_1, d.before a0 Z = true) (a1 : Addr) (h0 : Heap) (kk : ClassId) (bs : List Int32) (V1 : Arv Z h0 a1 kk .byte 8 (bs.map Value.int) (.int 0)) :
    own_Con l Z (⟨"com/example/steerage/steerage/agent/HttpHeadEndPinLaw", "emptyAt", "([BI)Z"⟩ : MethodName) method_4_code 2 (some .boolean) ({ frames := 0, cells := 0, slots := 0, locals := 0 } : Room) #[(.ref a1), (.int (1 : Int32))] h0 (fun v h L => ∃ z : Int32, v = some (.int z) ∧ (z = own_bb (own_E (own_at bs) 1)) ∧ L = [] ∧ h = h0) := by
  refine own_Con_of pn_4 ?_
  intro p e s m below meth c s₁ X0 hx hby hml hret hlk hnm hown hZ e0
  have hown : s.vm.findClass "com/example/steerage/steerage/agent/HttpHeadEndPinLaw" = some m.cls := hown
  have hml : c.maxLocals = 2 := hml
  show own_WP _ _ _ _ _ _ _ (s₁.setTop (entryFrame m #[(.ref a1), (.int (1 : Int32))] 2))
  rw [ef_conEm1 m a1]
  refine own_iloadN (pc' := 1) X0 hx (hb hby d4_0) rfl rfl ?_
  refine own_if_ne (pt := 6) (pf := 4) X0 hx (hb hby d4_1) rfl (by decide) rfl (fun hc1 => ?_) (fun hc1 => absurd hc1 (by decide))
  refine own_aloadN (pc' := 7) X0 hx (hb hby d4_6) rfl rfl rfl ?_
  refine own_iloadN (pc' := 8) X0 hx (hb hby d4_7) rfl rfl ?_
  refine own_iconst (pc' := 9) X0 hx (1 : Int32) (hb hby d4_8) rfl rfl ?_
  refine own_isub (pc' := 10) X0 hx (hb hby d4_9) rfl ?_
  show own_WP _ _ _ _ _ _ _ (s₁.setTop (mkF m 10 #[.val (.ref a1), .val (.int (1 : Int32))] [(.int (0 : Int32)), (.ref a1)]))
  refine own_baload (pc' := 11) (v := (.int (own_at bs 0))) X0 hx hZ e0 V1 ⟨by decide, by decide⟩ (own_getm bs 0) (hb hby d4_10) rfl ?_
  refine own_bipush (pc' := 13) X0 hx (10 : Int32) (hb hby d4_11) rfl rfl ?_
  refine own_icmp_ne (pt := 18) (pf := 16) X0 hx (hb hby d4_13) rfl (by decide) rfl (fun hc13 => ?_) (fun hc13 => ?_)
  · skip
    refine own_aloadN (pc' := 19) X0 hx (hb hby d4_18) rfl rfl rfl ?_
    refine own_iloadN (pc' := 20) X0 hx (hb hby d4_19) rfl rfl ?_
    refine own_iconst (pc' := 21) X0 hx (1 : Int32) (hb hby d4_20) rfl rfl ?_
    refine own_isub (pc' := 22) X0 hx (hb hby d4_21) rfl ?_
    show own_WP _ _ _ _ _ _ _ (s₁.setTop (mkF m 22 #[.val (.ref a1), .val (.int (1 : Int32))] [(.int (0 : Int32)), (.ref a1)]))
    refine own_baload (pc' := 23) (v := (.int (own_at bs 0))) X0 hx hZ e0 V1 ⟨by decide, by decide⟩ (own_getm bs 0) (hb hby d4_22) rfl ?_
    refine own_bipush (pc' := 25) X0 hx (13 : Int32) (hb hby d4_23) rfl rfl ?_
    refine own_icmp_ne (pt := 51) (pf := 28) X0 hx (hb hby d4_25) rfl (by decide) rfl (fun hc25 => ?_) (fun hc25 => ?_)
    · skip
      refine own_iconst (pc' := 52) X0 hx (0 : Int32) (hb hby d4_51) rfl rfl ?_
      refine own_retN X0 hx hlk (t := .boolean) (by decide) hret (hb hby d4_52) (by decide) (by decide) ?_
      refine ⟨(0 : Int32), rfl, ?_, rfl, e0⟩
      simp [own_bb, own_E, hc13, hc25]
    · skip
      refine own_iloadN (pc' := 29) X0 hx (hb hby d4_28) rfl rfl ?_
      refine own_iconst (pc' := 30) X0 hx (1 : Int32) (hb hby d4_29) rfl rfl ?_
      refine own_icmp_ne (pt := 35) (pf := 33) X0 hx (hb hby d4_30) rfl (by decide) rfl (fun hc30 => absurd (by decide) hc30) (fun hc30 => ?_)
      refine own_iconst (pc' := 34) X0 hx (1 : Int32) (hb hby d4_33) rfl rfl ?_
      refine own_retN X0 hx hlk (t := .boolean) (by decide) hret (hb hby d4_34) (by decide) (by decide) ?_
      refine ⟨(1 : Int32), rfl, ?_, rfl, e0⟩
      simp [own_bb, own_E, hc13, hc25]
  · skip
    refine own_iconst (pc' := 17) X0 hx (1 : Int32) (hb hby d4_16) rfl rfl ?_
    refine own_retN X0 hx hlk (t := .boolean) (by decide) hret (hb hby d4_17) (by decide) (by decide) ?_
    refine ⟨(1 : Int32), rfl, ?_, rfl, e0⟩
    simp [own_bb, own_E, hc13]
theorem ef_conF1 (m : MethodId) (a1 : Addr) (c1 : Int32) : entryFrame m #[(.ref a1), (.int c1), (.int (1 : Int32))] 3 = mkF m 0 #[.val (.ref a1), .val (.int c1), .val (.int (1 : Int32))] [] := by first | (simp [entryFrame, mkF, argsToLocals, Value.category]; done) | rfl
set_option maxRecDepth 65536 in
set_option maxHeartbeats 4000000 in
theorem conF1 (l : Launch) (Z : State) (a0 : Array Value) (hw : ∀ d ∈ tables_1, d.before a0 Z = true) (a1 : Addr) (c1 : Int32) (h0 : Heap) (kk : ClassId) (bs : List Int32) (V1 : Arv Z h0 a1 kk .byte 8 (bs.map Value.int) (.int 0)) (hl : 0 ≤ c1.toInt) :
    own_Con l Z (⟨"com/example/steerage/steerage/agent/HttpHeadEndPinLaw", "full", "([BII)Z"⟩ : MethodName) method_6_code 3 (some .boolean) ({ frames := 1, cells := 0, slots := 0, locals := 14 } : Room) #[(.ref a1), (.int c1), (.int (1 : Int32))] h0 (fun v h L => ∃ z : Int32, v = some (.int z) ∧ (z = own_bb ((1 < c1.toInt.toNat ∧ own_at bs 1 = 10) ∧ ¬ own_E (own_at bs) 1)) ∧ L = [] ∧ h = h0) := by
  refine own_Con_of pn_2 ?_
  intro p e s m below meth c s₁ X0 hx hby hml hret hlk hnm hown hZ e0
  have hown : s.vm.findClass "com/example/steerage/steerage/agent/HttpHeadEndPinLaw" = some m.cls := hown
  have hml : c.maxLocals = 3 := hml
  show own_WP _ _ _ _ _ _ _ (s₁.setTop (entryFrame m #[(.ref a1), (.int c1), (.int (1 : Int32))] 3))
  rw [ef_conF1 m a1 c1]
  refine own_aloadN (pc' := 1) X0 hx (hb hby d2_0) rfl rfl rfl ?_
  refine own_iloadN (pc' := 2) X0 hx (hb hby d2_1) rfl rfl ?_
  refine own_iloadN (pc' := 3) X0 hx (hb hby d2_2) rfl rfl ?_
  refine own_callS (pc' := 6) (W := 0) (y := (⟨"com/example/steerage/steerage/agent/HttpHeadEndPinLaw", "lf", "([BII)Z"⟩ : MethodName)) X0 hx hZ hown (own_w hw 9 rfl) (own_w hw 10 rfl) (own_w hw 3 rfl) (own_w hw 11 rfl) (by decide) (conLf1 l Z a0 hw a1 c1 _ kk bs V1 hl) e0 pd0 [(.ref a1), (.int c1), (.int (1 : Int32))] [] rfl rfl rfl (Nat.le_of_eq rfl) (by decide) (by decide) (by rw [hml]; rfl) (hb hby d2_3) (by decide) (by decide) rfl ?_
  intro v1 T1 L1 X1 q1
  obtain ⟨r1, rfl, hr1, rfl, e1⟩ := q1
  show own_WP _ _ _ _ _ _ _ (T1.setTop (mkF m 6 #[.val (.ref a1), .val (.int c1), .val (.int (1 : Int32))] [(.int r1)]))
  refine own_if_eq (pt := 21) (pf := 9) X1 hx (hb hby d2_6) rfl (by decide) rfl (fun hc6 => ?_) (fun hc6 => ?_)
  · skip
    refine own_iconst (pc' := 22) X1 hx (0 : Int32) (hb hby d2_21) rfl rfl ?_
    refine own_retN X1 hx hlk (t := .boolean) (by decide) hret (hb hby d2_22) (by decide) (by decide) ?_
    refine ⟨(0 : Int32), rfl, ?_, rfl, e1⟩
    have q1 := own_bb0 hr1 hc6
    rw [own_bb, if_neg (fun q => q1 q.1)]
  · skip
    refine own_aloadN (pc' := 10) X1 hx (hb hby d2_9) rfl rfl rfl ?_
    refine own_iloadN (pc' := 11) X1 hx (hb hby d2_10) rfl rfl ?_
    refine own_callS (pc' := 14) (W := 0) (y := (⟨"com/example/steerage/steerage/agent/HttpHeadEndPinLaw", "emptyAt", "([BI)Z"⟩ : MethodName)) X1 hx hZ hown (own_w hw 12 rfl) (own_w hw 13 rfl) (own_w hw 3 rfl) (own_w hw 14 rfl) (by decide) (conEm1 l Z a0 hw a1 _ kk bs V1) e1 pd1 [(.ref a1), (.int (1 : Int32))] [] rfl rfl rfl (Nat.le_of_eq rfl) (by decide) (by decide) (by rw [hml]; rfl) (hb hby d2_11) (by decide) (by decide) rfl ?_
    intro v2 T2 L2 X2 q2
    obtain ⟨r2, rfl, hr2, rfl, e2⟩ := q2
    show own_WP _ _ _ _ _ _ _ (T2.setTop (mkF m 14 #[.val (.ref a1), .val (.int c1), .val (.int (1 : Int32))] [(.int r2)]))
    refine own_if_ne (pt := 21) (pf := 17) X2 hx (hb hby d2_14) rfl (by decide) rfl (fun hc14 => ?_) (fun hc14 => ?_)
    · skip
      refine own_iconst (pc' := 22) X2 hx (0 : Int32) (hb hby d2_21) rfl rfl ?_
      refine own_retN X2 hx hlk (t := .boolean) (by decide) hret (hb hby d2_22) (by decide) (by decide) ?_
      refine ⟨(0 : Int32), rfl, ?_, rfl, e2⟩
      have q1 := own_bb1 hr1 hc6
      have q2 := own_bb1 hr2 hc14
      rw [own_bb, if_neg (fun q => q.2 q2)]
    · skip
      refine own_iconst (pc' := 18) X2 hx (1 : Int32) (hb hby d2_17) rfl rfl ?_
      refine own_goto (pc' := 22) X2 hx (hb hby d2_18) (by decide) rfl ?_
      refine own_retN X2 hx hlk (t := .boolean) (by decide) hret (hb hby d2_22) (by decide) (by decide) ?_
      refine ⟨(1 : Int32), rfl, ?_, rfl, e2⟩
      have q1 := own_bb1 hr1 hc6
      have q2 := own_bb0 hr2 hc14
      rw [own_bb, if_pos ⟨q1, q2⟩]
theorem ef_conB1 (m : MethodId) (a1 : Addr) (c1 : Int32) : entryFrame m #[(.ref a1), (.int c1), (.int (1 : Int32))] 3 = mkF m 0 #[.val (.ref a1), .val (.int c1), .val (.int (1 : Int32))] [] := by first | (simp [entryFrame, mkF, argsToLocals, Value.category]; done) | rfl
set_option maxRecDepth 65536 in
set_option maxHeartbeats 4000000 in
theorem conB1 (l : Launch) (Z : State) (a0 : Array Value) (hw : ∀ d ∈ tables_1, d.before a0 Z = true) (a1 : Addr) (c1 : Int32) (h0 : Heap) (kk : ClassId) (bs : List Int32) (V1 : Arv Z h0 a1 kk .byte 8 (bs.map Value.int) (.int 0)) (hl : 0 ≤ c1.toInt) :
    own_Con l Z (⟨"com/example/steerage/steerage/agent/HttpHeadEndPinLaw", "blank", "([BII)Z"⟩ : MethodName) method_5_code 3 (some .boolean) ({ frames := 1, cells := 0, slots := 0, locals := 14 } : Room) #[(.ref a1), (.int c1), (.int (1 : Int32))] h0 (fun v h L => ∃ z : Int32, v = some (.int z) ∧ (z = own_bb ((1 < c1.toInt.toNat ∧ own_at bs 1 = 10) ∧ own_E (own_at bs) 1)) ∧ L = [] ∧ h = h0) := by
  refine own_Con_of pn_7 ?_
  intro p e s m below meth c s₁ X0 hx hby hml hret hlk hnm hown hZ e0
  have hown : s.vm.findClass "com/example/steerage/steerage/agent/HttpHeadEndPinLaw" = some m.cls := hown
  have hml : c.maxLocals = 3 := hml
  show own_WP _ _ _ _ _ _ _ (s₁.setTop (entryFrame m #[(.ref a1), (.int c1), (.int (1 : Int32))] 3))
  rw [ef_conB1 m a1 c1]
  refine own_aloadN (pc' := 1) X0 hx (hb hby d7_0) rfl rfl rfl ?_
  refine own_iloadN (pc' := 2) X0 hx (hb hby d7_1) rfl rfl ?_
  refine own_iloadN (pc' := 3) X0 hx (hb hby d7_2) rfl rfl ?_
  refine own_callS (pc' := 6) (W := 0) (y := (⟨"com/example/steerage/steerage/agent/HttpHeadEndPinLaw", "lf", "([BII)Z"⟩ : MethodName)) X0 hx hZ hown (own_w hw 9 rfl) (own_w hw 10 rfl) (own_w hw 3 rfl) (own_w hw 11 rfl) (by decide) (conLf1 l Z a0 hw a1 c1 _ kk bs V1 hl) e0 pd0 [(.ref a1), (.int c1), (.int (1 : Int32))] [] rfl rfl rfl (Nat.le_of_eq rfl) (by decide) (by decide) (by rw [hml]; rfl) (hb hby d7_3) (by decide) (by decide) rfl ?_
  intro v1 T1 L1 X1 q1
  obtain ⟨r1, rfl, hr1, rfl, e1⟩ := q1
  show own_WP _ _ _ _ _ _ _ (T1.setTop (mkF m 6 #[.val (.ref a1), .val (.int c1), .val (.int (1 : Int32))] [(.int r1)]))
  refine own_if_eq (pt := 21) (pf := 9) X1 hx (hb hby d7_6) rfl (by decide) rfl (fun hc6 => ?_) (fun hc6 => ?_)
  · skip
    refine own_iconst (pc' := 22) X1 hx (0 : Int32) (hb hby d7_21) rfl rfl ?_
    refine own_retN X1 hx hlk (t := .boolean) (by decide) hret (hb hby d7_22) (by decide) (by decide) ?_
    refine ⟨(0 : Int32), rfl, ?_, rfl, e1⟩
    have q1 := own_bb0 hr1 hc6
    rw [own_bb, if_neg (fun q => q1 q.1)]
  · skip
    refine own_aloadN (pc' := 10) X1 hx (hb hby d7_9) rfl rfl rfl ?_
    refine own_iloadN (pc' := 11) X1 hx (hb hby d7_10) rfl rfl ?_
    refine own_callS (pc' := 14) (W := 0) (y := (⟨"com/example/steerage/steerage/agent/HttpHeadEndPinLaw", "emptyAt", "([BI)Z"⟩ : MethodName)) X1 hx hZ hown (own_w hw 12 rfl) (own_w hw 13 rfl) (own_w hw 3 rfl) (own_w hw 14 rfl) (by decide) (conEm1 l Z a0 hw a1 _ kk bs V1) e1 pd1 [(.ref a1), (.int (1 : Int32))] [] rfl rfl rfl (Nat.le_of_eq rfl) (by decide) (by decide) (by rw [hml]; rfl) (hb hby d7_11) (by decide) (by decide) rfl ?_
    intro v2 T2 L2 X2 q2
    obtain ⟨r2, rfl, hr2, rfl, e2⟩ := q2
    show own_WP _ _ _ _ _ _ _ (T2.setTop (mkF m 14 #[.val (.ref a1), .val (.int c1), .val (.int (1 : Int32))] [(.int r2)]))
    refine own_if_eq (pt := 21) (pf := 17) X2 hx (hb hby d7_14) rfl (by decide) rfl (fun hc14 => ?_) (fun hc14 => ?_)
    · skip
      refine own_iconst (pc' := 22) X2 hx (0 : Int32) (hb hby d7_21) rfl rfl ?_
      refine own_retN X2 hx hlk (t := .boolean) (by decide) hret (hb hby d7_22) (by decide) (by decide) ?_
      refine ⟨(0 : Int32), rfl, ?_, rfl, e2⟩
      have q1 := own_bb1 hr1 hc6
      have q2 := own_bb0 hr2 hc14
      rw [own_bb, if_neg (fun q => q2 q.2)]
    · skip
      refine own_iconst (pc' := 18) X2 hx (1 : Int32) (hb hby d7_17) rfl rfl ?_
      refine own_goto (pc' := 22) X2 hx (hb hby d7_18) (by decide) rfl ?_
      refine own_retN X2 hx hlk (t := .boolean) (by decide) hret (hb hby d7_22) (by decide) (by decide) ?_
      refine ⟨(1 : Int32), rfl, ?_, rfl, e2⟩
      have q1 := own_bb1 hr1 hc6
      have q2 := own_bb1 hr2 hc14
      rw [own_bb, if_pos ⟨q1, q2⟩]
theorem ef_conLf2 (m : MethodId) (a1 : Addr) (c1 : Int32) : entryFrame m #[(.ref a1), (.int c1), (.int (2 : Int32))] 3 = mkF m 0 #[.val (.ref a1), .val (.int c1), .val (.int (2 : Int32))] [] := by first | (simp [entryFrame, mkF, argsToLocals, Value.category]; done) | rfl
set_option maxRecDepth 65536 in
set_option maxHeartbeats 4000000 in
theorem conLf2 (l : Launch) (Z : State) (a0 : Array Value) (hw : ∀ d ∈ tables_1, d.before a0 Z = true) (a1 : Addr) (c1 : Int32) (h0 : Heap) (kk : ClassId) (bs : List Int32) (V1 : Arv Z h0 a1 kk .byte 8 (bs.map Value.int) (.int 0)) (hl : 0 ≤ c1.toInt) :
    own_Con l Z (⟨"com/example/steerage/steerage/agent/HttpHeadEndPinLaw", "lf", "([BII)Z"⟩ : MethodName) method_3_code 3 (some .boolean) ({ frames := 0, cells := 0, slots := 0, locals := 0 } : Room) #[(.ref a1), (.int c1), (.int (2 : Int32))] h0 (fun v h L => ∃ z : Int32, v = some (.int z) ∧ (z = own_bb (2 < c1.toInt.toNat ∧ own_at bs 2 = 10)) ∧ L = [] ∧ h = h0) := by
  refine own_Con_of pn_3 ?_
  intro p e s m below meth c s₁ X0 hx hby hml hret hlk hnm hown hZ e0
  have hown : s.vm.findClass "com/example/steerage/steerage/agent/HttpHeadEndPinLaw" = some m.cls := hown
  have hml : c.maxLocals = 3 := hml
  show own_WP _ _ _ _ _ _ _ (s₁.setTop (entryFrame m #[(.ref a1), (.int c1), (.int (2 : Int32))] 3))
  rw [ef_conLf2 m a1 c1]
  refine own_iloadN (pc' := 1) X0 hx (hb hby d3_0) rfl rfl ?_
  refine own_iloadN (pc' := 2) X0 hx (hb hby d3_1) rfl rfl ?_
  refine own_icmp_ge (pt := 17) (pf := 5) X0 hx (hb hby d3_2) rfl (by decide) rfl (fun hc2 => ?_) (fun hc2 => ?_)
  · skip
    refine own_iconst (pc' := 18) X0 hx (0 : Int32) (hb hby d3_17) rfl rfl ?_
    refine own_retN X0 hx hlk (t := .boolean) (by decide) hret (hb hby d3_18) (by decide) (by decide) ?_
    refine ⟨(0 : Int32), rfl, ?_, rfl, e0⟩
    have q := own_lit (i := 2) (v := 2) hl (by decide)
    rw [own_bb, if_neg (fun z => hc2 (q.mpr z.1))]
  · skip
    refine own_aloadN (pc' := 6) X0 hx (hb hby d3_5) rfl rfl rfl ?_
    refine own_iloadN (pc' := 7) X0 hx (hb hby d3_6) rfl rfl ?_
    refine own_baload (pc' := 8) (v := (.int (own_at bs 2))) X0 hx hZ e0 V1 ⟨by decide, by decide⟩ (own_getm bs 2) (hb hby d3_7) rfl ?_
    refine own_bipush (pc' := 10) X0 hx (10 : Int32) (hb hby d3_8) rfl rfl ?_
    refine own_icmp_ne (pt := 17) (pf := 13) X0 hx (hb hby d3_10) rfl (by decide) rfl (fun hc10 => ?_) (fun hc10 => ?_)
    · skip
      refine own_iconst (pc' := 18) X0 hx (0 : Int32) (hb hby d3_17) rfl rfl ?_
      refine own_retN X0 hx hlk (t := .boolean) (by decide) hret (hb hby d3_18) (by decide) (by decide) ?_
      refine ⟨(0 : Int32), rfl, ?_, rfl, e0⟩
      have q := own_lit (i := 2) (v := 2) hl (by decide)
      rw [own_bb, if_neg (fun z => hc10 z.2)]
    · skip
      refine own_iconst (pc' := 14) X0 hx (1 : Int32) (hb hby d3_13) rfl rfl ?_
      refine own_goto (pc' := 18) X0 hx (hb hby d3_14) (by decide) rfl ?_
      refine own_retN X0 hx hlk (t := .boolean) (by decide) hret (hb hby d3_18) (by decide) (by decide) ?_
      refine ⟨(1 : Int32), rfl, ?_, rfl, e0⟩
      have q := own_lit (i := 2) (v := 2) hl (by decide)
      rw [own_bb, if_pos ⟨q.mp hc2, hc10⟩]
theorem ef_conEm2 (m : MethodId) (a1 : Addr) : entryFrame m #[(.ref a1), (.int (2 : Int32))] 2 = mkF m 0 #[.val (.ref a1), .val (.int (2 : Int32))] [] := by first | (simp [entryFrame, mkF, argsToLocals, Value.category]; done) | rfl
set_option maxRecDepth 65536 in
set_option maxHeartbeats 4000000 in
theorem conEm2 (l : Launch) (Z : State) (a0 : Array Value) (hw : ∀ d ∈ tables_1, d.before a0 Z = true) (a1 : Addr) (h0 : Heap) (kk : ClassId) (bs : List Int32) (V1 : Arv Z h0 a1 kk .byte 8 (bs.map Value.int) (.int 0)) :
    own_Con l Z (⟨"com/example/steerage/steerage/agent/HttpHeadEndPinLaw", "emptyAt", "([BI)Z"⟩ : MethodName) method_4_code 2 (some .boolean) ({ frames := 0, cells := 0, slots := 0, locals := 0 } : Room) #[(.ref a1), (.int (2 : Int32))] h0 (fun v h L => ∃ z : Int32, v = some (.int z) ∧ (z = own_bb (own_E (own_at bs) 2)) ∧ L = [] ∧ h = h0) := by
  refine own_Con_of pn_4 ?_
  intro p e s m below meth c s₁ X0 hx hby hml hret hlk hnm hown hZ e0
  have hown : s.vm.findClass "com/example/steerage/steerage/agent/HttpHeadEndPinLaw" = some m.cls := hown
  have hml : c.maxLocals = 2 := hml
  show own_WP _ _ _ _ _ _ _ (s₁.setTop (entryFrame m #[(.ref a1), (.int (2 : Int32))] 2))
  rw [ef_conEm2 m a1]
  refine own_iloadN (pc' := 1) X0 hx (hb hby d4_0) rfl rfl ?_
  refine own_if_ne (pt := 6) (pf := 4) X0 hx (hb hby d4_1) rfl (by decide) rfl (fun hc1 => ?_) (fun hc1 => absurd hc1 (by decide))
  refine own_aloadN (pc' := 7) X0 hx (hb hby d4_6) rfl rfl rfl ?_
  refine own_iloadN (pc' := 8) X0 hx (hb hby d4_7) rfl rfl ?_
  refine own_iconst (pc' := 9) X0 hx (1 : Int32) (hb hby d4_8) rfl rfl ?_
  refine own_isub (pc' := 10) X0 hx (hb hby d4_9) rfl ?_
  show own_WP _ _ _ _ _ _ _ (s₁.setTop (mkF m 10 #[.val (.ref a1), .val (.int (2 : Int32))] [(.int (1 : Int32)), (.ref a1)]))
  refine own_baload (pc' := 11) (v := (.int (own_at bs 1))) X0 hx hZ e0 V1 ⟨by decide, by decide⟩ (own_getm bs 1) (hb hby d4_10) rfl ?_
  refine own_bipush (pc' := 13) X0 hx (10 : Int32) (hb hby d4_11) rfl rfl ?_
  refine own_icmp_ne (pt := 18) (pf := 16) X0 hx (hb hby d4_13) rfl (by decide) rfl (fun hc13 => ?_) (fun hc13 => ?_)
  · skip
    refine own_aloadN (pc' := 19) X0 hx (hb hby d4_18) rfl rfl rfl ?_
    refine own_iloadN (pc' := 20) X0 hx (hb hby d4_19) rfl rfl ?_
    refine own_iconst (pc' := 21) X0 hx (1 : Int32) (hb hby d4_20) rfl rfl ?_
    refine own_isub (pc' := 22) X0 hx (hb hby d4_21) rfl ?_
    show own_WP _ _ _ _ _ _ _ (s₁.setTop (mkF m 22 #[.val (.ref a1), .val (.int (2 : Int32))] [(.int (1 : Int32)), (.ref a1)]))
    refine own_baload (pc' := 23) (v := (.int (own_at bs 1))) X0 hx hZ e0 V1 ⟨by decide, by decide⟩ (own_getm bs 1) (hb hby d4_22) rfl ?_
    refine own_bipush (pc' := 25) X0 hx (13 : Int32) (hb hby d4_23) rfl rfl ?_
    refine own_icmp_ne (pt := 51) (pf := 28) X0 hx (hb hby d4_25) rfl (by decide) rfl (fun hc25 => ?_) (fun hc25 => ?_)
    · skip
      refine own_iconst (pc' := 52) X0 hx (0 : Int32) (hb hby d4_51) rfl rfl ?_
      refine own_retN X0 hx hlk (t := .boolean) (by decide) hret (hb hby d4_52) (by decide) (by decide) ?_
      refine ⟨(0 : Int32), rfl, ?_, rfl, e0⟩
      simp [own_bb, own_E, hc13, hc25]
    · skip
      refine own_iloadN (pc' := 29) X0 hx (hb hby d4_28) rfl rfl ?_
      refine own_iconst (pc' := 30) X0 hx (1 : Int32) (hb hby d4_29) rfl rfl ?_
      refine own_icmp_ne (pt := 35) (pf := 33) X0 hx (hb hby d4_30) rfl (by decide) rfl (fun hc30 => ?_) (fun hc30 => absurd hc30 (by decide))
      refine own_aloadN (pc' := 36) X0 hx (hb hby d4_35) rfl rfl rfl ?_
      refine own_iloadN (pc' := 37) X0 hx (hb hby d4_36) rfl rfl ?_
      refine own_iconst (pc' := 38) X0 hx (2 : Int32) (hb hby d4_37) rfl rfl ?_
      refine own_isub (pc' := 39) X0 hx (hb hby d4_38) rfl ?_
      show own_WP _ _ _ _ _ _ _ (s₁.setTop (mkF m 39 #[.val (.ref a1), .val (.int (2 : Int32))] [(.int (0 : Int32)), (.ref a1)]))
      refine own_baload (pc' := 40) (v := (.int (own_at bs 0))) X0 hx hZ e0 V1 ⟨by decide, by decide⟩ (own_getm bs 0) (hb hby d4_39) rfl ?_
      refine own_bipush (pc' := 42) X0 hx (10 : Int32) (hb hby d4_40) rfl rfl ?_
      refine own_icmp_ne (pt := 49) (pf := 45) X0 hx (hb hby d4_42) rfl (by decide) rfl (fun hc42 => ?_) (fun hc42 => ?_)
      · skip
        refine own_iconst (pc' := 50) X0 hx (0 : Int32) (hb hby d4_49) rfl rfl ?_
        refine own_retN X0 hx hlk (t := .boolean) (by decide) hret (hb hby d4_50) (by decide) (by decide) ?_
        refine ⟨(0 : Int32), rfl, ?_, rfl, e0⟩
        simp [own_bb, own_E, hc13, hc25, hc42]
      · skip
        refine own_iconst (pc' := 46) X0 hx (1 : Int32) (hb hby d4_45) rfl rfl ?_
        refine own_goto (pc' := 50) X0 hx (hb hby d4_46) (by decide) rfl ?_
        refine own_retN X0 hx hlk (t := .boolean) (by decide) hret (hb hby d4_50) (by decide) (by decide) ?_
        refine ⟨(1 : Int32), rfl, ?_, rfl, e0⟩
        simp [own_bb, own_E, hc13, hc25, hc42]
  · skip
    refine own_iconst (pc' := 17) X0 hx (1 : Int32) (hb hby d4_16) rfl rfl ?_
    refine own_retN X0 hx hlk (t := .boolean) (by decide) hret (hb hby d4_17) (by decide) (by decide) ?_
    refine ⟨(1 : Int32), rfl, ?_, rfl, e0⟩
    simp [own_bb, own_E, hc13]
theorem ef_conF2 (m : MethodId) (a1 : Addr) (c1 : Int32) : entryFrame m #[(.ref a1), (.int c1), (.int (2 : Int32))] 3 = mkF m 0 #[.val (.ref a1), .val (.int c1), .val (.int (2 : Int32))] [] := by first | (simp [entryFrame, mkF, argsToLocals, Value.category]; done) | rfl
set_option maxRecDepth 65536 in
set_option maxHeartbeats 4000000 in
theorem conF2 (l : Launch) (Z : State) (a0 : Array Value) (hw : ∀ d ∈ tables_1, d.before a0 Z = true) (a1 : Addr) (c1 : Int32) (h0 : Heap) (kk : ClassId) (bs : List Int32) (V1 : Arv Z h0 a1 kk .byte 8 (bs.map Value.int) (.int 0)) (hl : 0 ≤ c1.toInt) :
    own_Con l Z (⟨"com/example/steerage/steerage/agent/HttpHeadEndPinLaw", "full", "([BII)Z"⟩ : MethodName) method_6_code 3 (some .boolean) ({ frames := 1, cells := 0, slots := 0, locals := 14 } : Room) #[(.ref a1), (.int c1), (.int (2 : Int32))] h0 (fun v h L => ∃ z : Int32, v = some (.int z) ∧ (z = own_bb ((2 < c1.toInt.toNat ∧ own_at bs 2 = 10) ∧ ¬ own_E (own_at bs) 2)) ∧ L = [] ∧ h = h0) := by
  refine own_Con_of pn_2 ?_
  intro p e s m below meth c s₁ X0 hx hby hml hret hlk hnm hown hZ e0
  have hown : s.vm.findClass "com/example/steerage/steerage/agent/HttpHeadEndPinLaw" = some m.cls := hown
  have hml : c.maxLocals = 3 := hml
  show own_WP _ _ _ _ _ _ _ (s₁.setTop (entryFrame m #[(.ref a1), (.int c1), (.int (2 : Int32))] 3))
  rw [ef_conF2 m a1 c1]
  refine own_aloadN (pc' := 1) X0 hx (hb hby d2_0) rfl rfl rfl ?_
  refine own_iloadN (pc' := 2) X0 hx (hb hby d2_1) rfl rfl ?_
  refine own_iloadN (pc' := 3) X0 hx (hb hby d2_2) rfl rfl ?_
  refine own_callS (pc' := 6) (W := 0) (y := (⟨"com/example/steerage/steerage/agent/HttpHeadEndPinLaw", "lf", "([BII)Z"⟩ : MethodName)) X0 hx hZ hown (own_w hw 9 rfl) (own_w hw 10 rfl) (own_w hw 3 rfl) (own_w hw 11 rfl) (by decide) (conLf2 l Z a0 hw a1 c1 _ kk bs V1 hl) e0 pd0 [(.ref a1), (.int c1), (.int (2 : Int32))] [] rfl rfl rfl (Nat.le_of_eq rfl) (by decide) (by decide) (by rw [hml]; rfl) (hb hby d2_3) (by decide) (by decide) rfl ?_
  intro v1 T1 L1 X1 q1
  obtain ⟨r1, rfl, hr1, rfl, e1⟩ := q1
  show own_WP _ _ _ _ _ _ _ (T1.setTop (mkF m 6 #[.val (.ref a1), .val (.int c1), .val (.int (2 : Int32))] [(.int r1)]))
  refine own_if_eq (pt := 21) (pf := 9) X1 hx (hb hby d2_6) rfl (by decide) rfl (fun hc6 => ?_) (fun hc6 => ?_)
  · skip
    refine own_iconst (pc' := 22) X1 hx (0 : Int32) (hb hby d2_21) rfl rfl ?_
    refine own_retN X1 hx hlk (t := .boolean) (by decide) hret (hb hby d2_22) (by decide) (by decide) ?_
    refine ⟨(0 : Int32), rfl, ?_, rfl, e1⟩
    have q1 := own_bb0 hr1 hc6
    rw [own_bb, if_neg (fun q => q1 q.1)]
  · skip
    refine own_aloadN (pc' := 10) X1 hx (hb hby d2_9) rfl rfl rfl ?_
    refine own_iloadN (pc' := 11) X1 hx (hb hby d2_10) rfl rfl ?_
    refine own_callS (pc' := 14) (W := 0) (y := (⟨"com/example/steerage/steerage/agent/HttpHeadEndPinLaw", "emptyAt", "([BI)Z"⟩ : MethodName)) X1 hx hZ hown (own_w hw 12 rfl) (own_w hw 13 rfl) (own_w hw 3 rfl) (own_w hw 14 rfl) (by decide) (conEm2 l Z a0 hw a1 _ kk bs V1) e1 pd1 [(.ref a1), (.int (2 : Int32))] [] rfl rfl rfl (Nat.le_of_eq rfl) (by decide) (by decide) (by rw [hml]; rfl) (hb hby d2_11) (by decide) (by decide) rfl ?_
    intro v2 T2 L2 X2 q2
    obtain ⟨r2, rfl, hr2, rfl, e2⟩ := q2
    show own_WP _ _ _ _ _ _ _ (T2.setTop (mkF m 14 #[.val (.ref a1), .val (.int c1), .val (.int (2 : Int32))] [(.int r2)]))
    refine own_if_ne (pt := 21) (pf := 17) X2 hx (hb hby d2_14) rfl (by decide) rfl (fun hc14 => ?_) (fun hc14 => ?_)
    · skip
      refine own_iconst (pc' := 22) X2 hx (0 : Int32) (hb hby d2_21) rfl rfl ?_
      refine own_retN X2 hx hlk (t := .boolean) (by decide) hret (hb hby d2_22) (by decide) (by decide) ?_
      refine ⟨(0 : Int32), rfl, ?_, rfl, e2⟩
      have q1 := own_bb1 hr1 hc6
      have q2 := own_bb1 hr2 hc14
      rw [own_bb, if_neg (fun q => q.2 q2)]
    · skip
      refine own_iconst (pc' := 18) X2 hx (1 : Int32) (hb hby d2_17) rfl rfl ?_
      refine own_goto (pc' := 22) X2 hx (hb hby d2_18) (by decide) rfl ?_
      refine own_retN X2 hx hlk (t := .boolean) (by decide) hret (hb hby d2_22) (by decide) (by decide) ?_
      refine ⟨(1 : Int32), rfl, ?_, rfl, e2⟩
      have q1 := own_bb1 hr1 hc6
      have q2 := own_bb0 hr2 hc14
      rw [own_bb, if_pos ⟨q1, q2⟩]
theorem ef_conB2 (m : MethodId) (a1 : Addr) (c1 : Int32) : entryFrame m #[(.ref a1), (.int c1), (.int (2 : Int32))] 3 = mkF m 0 #[.val (.ref a1), .val (.int c1), .val (.int (2 : Int32))] [] := by first | (simp [entryFrame, mkF, argsToLocals, Value.category]; done) | rfl
set_option maxRecDepth 65536 in
set_option maxHeartbeats 4000000 in
theorem conB2 (l : Launch) (Z : State) (a0 : Array Value) (hw : ∀ d ∈ tables_1, d.before a0 Z = true) (a1 : Addr) (c1 : Int32) (h0 : Heap) (kk : ClassId) (bs : List Int32) (V1 : Arv Z h0 a1 kk .byte 8 (bs.map Value.int) (.int 0)) (hl : 0 ≤ c1.toInt) :
    own_Con l Z (⟨"com/example/steerage/steerage/agent/HttpHeadEndPinLaw", "blank", "([BII)Z"⟩ : MethodName) method_5_code 3 (some .boolean) ({ frames := 1, cells := 0, slots := 0, locals := 14 } : Room) #[(.ref a1), (.int c1), (.int (2 : Int32))] h0 (fun v h L => ∃ z : Int32, v = some (.int z) ∧ (z = own_bb ((2 < c1.toInt.toNat ∧ own_at bs 2 = 10) ∧ own_E (own_at bs) 2)) ∧ L = [] ∧ h = h0) := by
  refine own_Con_of pn_7 ?_
  intro p e s m below meth c s₁ X0 hx hby hml hret hlk hnm hown hZ e0
  have hown : s.vm.findClass "com/example/steerage/steerage/agent/HttpHeadEndPinLaw" = some m.cls := hown
  have hml : c.maxLocals = 3 := hml
  show own_WP _ _ _ _ _ _ _ (s₁.setTop (entryFrame m #[(.ref a1), (.int c1), (.int (2 : Int32))] 3))
  rw [ef_conB2 m a1 c1]
  refine own_aloadN (pc' := 1) X0 hx (hb hby d7_0) rfl rfl rfl ?_
  refine own_iloadN (pc' := 2) X0 hx (hb hby d7_1) rfl rfl ?_
  refine own_iloadN (pc' := 3) X0 hx (hb hby d7_2) rfl rfl ?_
  refine own_callS (pc' := 6) (W := 0) (y := (⟨"com/example/steerage/steerage/agent/HttpHeadEndPinLaw", "lf", "([BII)Z"⟩ : MethodName)) X0 hx hZ hown (own_w hw 9 rfl) (own_w hw 10 rfl) (own_w hw 3 rfl) (own_w hw 11 rfl) (by decide) (conLf2 l Z a0 hw a1 c1 _ kk bs V1 hl) e0 pd0 [(.ref a1), (.int c1), (.int (2 : Int32))] [] rfl rfl rfl (Nat.le_of_eq rfl) (by decide) (by decide) (by rw [hml]; rfl) (hb hby d7_3) (by decide) (by decide) rfl ?_
  intro v1 T1 L1 X1 q1
  obtain ⟨r1, rfl, hr1, rfl, e1⟩ := q1
  show own_WP _ _ _ _ _ _ _ (T1.setTop (mkF m 6 #[.val (.ref a1), .val (.int c1), .val (.int (2 : Int32))] [(.int r1)]))
  refine own_if_eq (pt := 21) (pf := 9) X1 hx (hb hby d7_6) rfl (by decide) rfl (fun hc6 => ?_) (fun hc6 => ?_)
  · skip
    refine own_iconst (pc' := 22) X1 hx (0 : Int32) (hb hby d7_21) rfl rfl ?_
    refine own_retN X1 hx hlk (t := .boolean) (by decide) hret (hb hby d7_22) (by decide) (by decide) ?_
    refine ⟨(0 : Int32), rfl, ?_, rfl, e1⟩
    have q1 := own_bb0 hr1 hc6
    rw [own_bb, if_neg (fun q => q1 q.1)]
  · skip
    refine own_aloadN (pc' := 10) X1 hx (hb hby d7_9) rfl rfl rfl ?_
    refine own_iloadN (pc' := 11) X1 hx (hb hby d7_10) rfl rfl ?_
    refine own_callS (pc' := 14) (W := 0) (y := (⟨"com/example/steerage/steerage/agent/HttpHeadEndPinLaw", "emptyAt", "([BI)Z"⟩ : MethodName)) X1 hx hZ hown (own_w hw 12 rfl) (own_w hw 13 rfl) (own_w hw 3 rfl) (own_w hw 14 rfl) (by decide) (conEm2 l Z a0 hw a1 _ kk bs V1) e1 pd1 [(.ref a1), (.int (2 : Int32))] [] rfl rfl rfl (Nat.le_of_eq rfl) (by decide) (by decide) (by rw [hml]; rfl) (hb hby d7_11) (by decide) (by decide) rfl ?_
    intro v2 T2 L2 X2 q2
    obtain ⟨r2, rfl, hr2, rfl, e2⟩ := q2
    show own_WP _ _ _ _ _ _ _ (T2.setTop (mkF m 14 #[.val (.ref a1), .val (.int c1), .val (.int (2 : Int32))] [(.int r2)]))
    refine own_if_eq (pt := 21) (pf := 17) X2 hx (hb hby d7_14) rfl (by decide) rfl (fun hc14 => ?_) (fun hc14 => ?_)
    · skip
      refine own_iconst (pc' := 22) X2 hx (0 : Int32) (hb hby d7_21) rfl rfl ?_
      refine own_retN X2 hx hlk (t := .boolean) (by decide) hret (hb hby d7_22) (by decide) (by decide) ?_
      refine ⟨(0 : Int32), rfl, ?_, rfl, e2⟩
      have q1 := own_bb1 hr1 hc6
      have q2 := own_bb0 hr2 hc14
      rw [own_bb, if_neg (fun q => q2 q.2)]
    · skip
      refine own_iconst (pc' := 18) X2 hx (1 : Int32) (hb hby d7_17) rfl rfl ?_
      refine own_goto (pc' := 22) X2 hx (hb hby d7_18) (by decide) rfl ?_
      refine own_retN X2 hx hlk (t := .boolean) (by decide) hret (hb hby d7_22) (by decide) (by decide) ?_
      refine ⟨(1 : Int32), rfl, ?_, rfl, e2⟩
      have q1 := own_bb1 hr1 hc6
      have q2 := own_bb1 hr2 hc14
      rw [own_bb, if_pos ⟨q1, q2⟩]
theorem ef_conLf3 (m : MethodId) (a1 : Addr) (c1 : Int32) : entryFrame m #[(.ref a1), (.int c1), (.int (3 : Int32))] 3 = mkF m 0 #[.val (.ref a1), .val (.int c1), .val (.int (3 : Int32))] [] := by first | (simp [entryFrame, mkF, argsToLocals, Value.category]; done) | rfl
set_option maxRecDepth 65536 in
set_option maxHeartbeats 4000000 in
theorem conLf3 (l : Launch) (Z : State) (a0 : Array Value) (hw : ∀ d ∈ tables_1, d.before a0 Z = true) (a1 : Addr) (c1 : Int32) (h0 : Heap) (kk : ClassId) (bs : List Int32) (V1 : Arv Z h0 a1 kk .byte 8 (bs.map Value.int) (.int 0)) (hl : 0 ≤ c1.toInt) :
    own_Con l Z (⟨"com/example/steerage/steerage/agent/HttpHeadEndPinLaw", "lf", "([BII)Z"⟩ : MethodName) method_3_code 3 (some .boolean) ({ frames := 0, cells := 0, slots := 0, locals := 0 } : Room) #[(.ref a1), (.int c1), (.int (3 : Int32))] h0 (fun v h L => ∃ z : Int32, v = some (.int z) ∧ (z = own_bb (3 < c1.toInt.toNat ∧ own_at bs 3 = 10)) ∧ L = [] ∧ h = h0) := by
  refine own_Con_of pn_3 ?_
  intro p e s m below meth c s₁ X0 hx hby hml hret hlk hnm hown hZ e0
  have hown : s.vm.findClass "com/example/steerage/steerage/agent/HttpHeadEndPinLaw" = some m.cls := hown
  have hml : c.maxLocals = 3 := hml
  show own_WP _ _ _ _ _ _ _ (s₁.setTop (entryFrame m #[(.ref a1), (.int c1), (.int (3 : Int32))] 3))
  rw [ef_conLf3 m a1 c1]
  refine own_iloadN (pc' := 1) X0 hx (hb hby d3_0) rfl rfl ?_
  refine own_iloadN (pc' := 2) X0 hx (hb hby d3_1) rfl rfl ?_
  refine own_icmp_ge (pt := 17) (pf := 5) X0 hx (hb hby d3_2) rfl (by decide) rfl (fun hc2 => ?_) (fun hc2 => ?_)
  · skip
    refine own_iconst (pc' := 18) X0 hx (0 : Int32) (hb hby d3_17) rfl rfl ?_
    refine own_retN X0 hx hlk (t := .boolean) (by decide) hret (hb hby d3_18) (by decide) (by decide) ?_
    refine ⟨(0 : Int32), rfl, ?_, rfl, e0⟩
    have q := own_lit (i := 3) (v := 3) hl (by decide)
    rw [own_bb, if_neg (fun z => hc2 (q.mpr z.1))]
  · skip
    refine own_aloadN (pc' := 6) X0 hx (hb hby d3_5) rfl rfl rfl ?_
    refine own_iloadN (pc' := 7) X0 hx (hb hby d3_6) rfl rfl ?_
    refine own_baload (pc' := 8) (v := (.int (own_at bs 3))) X0 hx hZ e0 V1 ⟨by decide, by decide⟩ (own_getm bs 3) (hb hby d3_7) rfl ?_
    refine own_bipush (pc' := 10) X0 hx (10 : Int32) (hb hby d3_8) rfl rfl ?_
    refine own_icmp_ne (pt := 17) (pf := 13) X0 hx (hb hby d3_10) rfl (by decide) rfl (fun hc10 => ?_) (fun hc10 => ?_)
    · skip
      refine own_iconst (pc' := 18) X0 hx (0 : Int32) (hb hby d3_17) rfl rfl ?_
      refine own_retN X0 hx hlk (t := .boolean) (by decide) hret (hb hby d3_18) (by decide) (by decide) ?_
      refine ⟨(0 : Int32), rfl, ?_, rfl, e0⟩
      have q := own_lit (i := 3) (v := 3) hl (by decide)
      rw [own_bb, if_neg (fun z => hc10 z.2)]
    · skip
      refine own_iconst (pc' := 14) X0 hx (1 : Int32) (hb hby d3_13) rfl rfl ?_
      refine own_goto (pc' := 18) X0 hx (hb hby d3_14) (by decide) rfl ?_
      refine own_retN X0 hx hlk (t := .boolean) (by decide) hret (hb hby d3_18) (by decide) (by decide) ?_
      refine ⟨(1 : Int32), rfl, ?_, rfl, e0⟩
      have q := own_lit (i := 3) (v := 3) hl (by decide)
      rw [own_bb, if_pos ⟨q.mp hc2, hc10⟩]
theorem ef_conEm3 (m : MethodId) (a1 : Addr) : entryFrame m #[(.ref a1), (.int (3 : Int32))] 2 = mkF m 0 #[.val (.ref a1), .val (.int (3 : Int32))] [] := by first | (simp [entryFrame, mkF, argsToLocals, Value.category]; done) | rfl
set_option maxRecDepth 65536 in
set_option maxHeartbeats 4000000 in
theorem conEm3 (l : Launch) (Z : State) (a0 : Array Value) (hw : ∀ d ∈ tables_1, d.before a0 Z = true) (a1 : Addr) (h0 : Heap) (kk : ClassId) (bs : List Int32) (V1 : Arv Z h0 a1 kk .byte 8 (bs.map Value.int) (.int 0)) :
    own_Con l Z (⟨"com/example/steerage/steerage/agent/HttpHeadEndPinLaw", "emptyAt", "([BI)Z"⟩ : MethodName) method_4_code 2 (some .boolean) ({ frames := 0, cells := 0, slots := 0, locals := 0 } : Room) #[(.ref a1), (.int (3 : Int32))] h0 (fun v h L => ∃ z : Int32, v = some (.int z) ∧ (z = own_bb (own_E (own_at bs) 3)) ∧ L = [] ∧ h = h0) := by
  refine own_Con_of pn_4 ?_
  intro p e s m below meth c s₁ X0 hx hby hml hret hlk hnm hown hZ e0
  have hown : s.vm.findClass "com/example/steerage/steerage/agent/HttpHeadEndPinLaw" = some m.cls := hown
  have hml : c.maxLocals = 2 := hml
  show own_WP _ _ _ _ _ _ _ (s₁.setTop (entryFrame m #[(.ref a1), (.int (3 : Int32))] 2))
  rw [ef_conEm3 m a1]
  refine own_iloadN (pc' := 1) X0 hx (hb hby d4_0) rfl rfl ?_
  refine own_if_ne (pt := 6) (pf := 4) X0 hx (hb hby d4_1) rfl (by decide) rfl (fun hc1 => ?_) (fun hc1 => absurd hc1 (by decide))
  refine own_aloadN (pc' := 7) X0 hx (hb hby d4_6) rfl rfl rfl ?_
  refine own_iloadN (pc' := 8) X0 hx (hb hby d4_7) rfl rfl ?_
  refine own_iconst (pc' := 9) X0 hx (1 : Int32) (hb hby d4_8) rfl rfl ?_
  refine own_isub (pc' := 10) X0 hx (hb hby d4_9) rfl ?_
  show own_WP _ _ _ _ _ _ _ (s₁.setTop (mkF m 10 #[.val (.ref a1), .val (.int (3 : Int32))] [(.int (2 : Int32)), (.ref a1)]))
  refine own_baload (pc' := 11) (v := (.int (own_at bs 2))) X0 hx hZ e0 V1 ⟨by decide, by decide⟩ (own_getm bs 2) (hb hby d4_10) rfl ?_
  refine own_bipush (pc' := 13) X0 hx (10 : Int32) (hb hby d4_11) rfl rfl ?_
  refine own_icmp_ne (pt := 18) (pf := 16) X0 hx (hb hby d4_13) rfl (by decide) rfl (fun hc13 => ?_) (fun hc13 => ?_)
  · skip
    refine own_aloadN (pc' := 19) X0 hx (hb hby d4_18) rfl rfl rfl ?_
    refine own_iloadN (pc' := 20) X0 hx (hb hby d4_19) rfl rfl ?_
    refine own_iconst (pc' := 21) X0 hx (1 : Int32) (hb hby d4_20) rfl rfl ?_
    refine own_isub (pc' := 22) X0 hx (hb hby d4_21) rfl ?_
    show own_WP _ _ _ _ _ _ _ (s₁.setTop (mkF m 22 #[.val (.ref a1), .val (.int (3 : Int32))] [(.int (2 : Int32)), (.ref a1)]))
    refine own_baload (pc' := 23) (v := (.int (own_at bs 2))) X0 hx hZ e0 V1 ⟨by decide, by decide⟩ (own_getm bs 2) (hb hby d4_22) rfl ?_
    refine own_bipush (pc' := 25) X0 hx (13 : Int32) (hb hby d4_23) rfl rfl ?_
    refine own_icmp_ne (pt := 51) (pf := 28) X0 hx (hb hby d4_25) rfl (by decide) rfl (fun hc25 => ?_) (fun hc25 => ?_)
    · skip
      refine own_iconst (pc' := 52) X0 hx (0 : Int32) (hb hby d4_51) rfl rfl ?_
      refine own_retN X0 hx hlk (t := .boolean) (by decide) hret (hb hby d4_52) (by decide) (by decide) ?_
      refine ⟨(0 : Int32), rfl, ?_, rfl, e0⟩
      simp [own_bb, own_E, hc13, hc25]
    · skip
      refine own_iloadN (pc' := 29) X0 hx (hb hby d4_28) rfl rfl ?_
      refine own_iconst (pc' := 30) X0 hx (1 : Int32) (hb hby d4_29) rfl rfl ?_
      refine own_icmp_ne (pt := 35) (pf := 33) X0 hx (hb hby d4_30) rfl (by decide) rfl (fun hc30 => ?_) (fun hc30 => absurd hc30 (by decide))
      refine own_aloadN (pc' := 36) X0 hx (hb hby d4_35) rfl rfl rfl ?_
      refine own_iloadN (pc' := 37) X0 hx (hb hby d4_36) rfl rfl ?_
      refine own_iconst (pc' := 38) X0 hx (2 : Int32) (hb hby d4_37) rfl rfl ?_
      refine own_isub (pc' := 39) X0 hx (hb hby d4_38) rfl ?_
      show own_WP _ _ _ _ _ _ _ (s₁.setTop (mkF m 39 #[.val (.ref a1), .val (.int (3 : Int32))] [(.int (1 : Int32)), (.ref a1)]))
      refine own_baload (pc' := 40) (v := (.int (own_at bs 1))) X0 hx hZ e0 V1 ⟨by decide, by decide⟩ (own_getm bs 1) (hb hby d4_39) rfl ?_
      refine own_bipush (pc' := 42) X0 hx (10 : Int32) (hb hby d4_40) rfl rfl ?_
      refine own_icmp_ne (pt := 49) (pf := 45) X0 hx (hb hby d4_42) rfl (by decide) rfl (fun hc42 => ?_) (fun hc42 => ?_)
      · skip
        refine own_iconst (pc' := 50) X0 hx (0 : Int32) (hb hby d4_49) rfl rfl ?_
        refine own_retN X0 hx hlk (t := .boolean) (by decide) hret (hb hby d4_50) (by decide) (by decide) ?_
        refine ⟨(0 : Int32), rfl, ?_, rfl, e0⟩
        simp [own_bb, own_E, hc13, hc25, hc42]
      · skip
        refine own_iconst (pc' := 46) X0 hx (1 : Int32) (hb hby d4_45) rfl rfl ?_
        refine own_goto (pc' := 50) X0 hx (hb hby d4_46) (by decide) rfl ?_
        refine own_retN X0 hx hlk (t := .boolean) (by decide) hret (hb hby d4_50) (by decide) (by decide) ?_
        refine ⟨(1 : Int32), rfl, ?_, rfl, e0⟩
        simp [own_bb, own_E, hc13, hc25, hc42]
  · skip
    refine own_iconst (pc' := 17) X0 hx (1 : Int32) (hb hby d4_16) rfl rfl ?_
    refine own_retN X0 hx hlk (t := .boolean) (by decide) hret (hb hby d4_17) (by decide) (by decide) ?_
    refine ⟨(1 : Int32), rfl, ?_, rfl, e0⟩
    simp [own_bb, own_E, hc13]
theorem ef_conF3 (m : MethodId) (a1 : Addr) (c1 : Int32) : entryFrame m #[(.ref a1), (.int c1), (.int (3 : Int32))] 3 = mkF m 0 #[.val (.ref a1), .val (.int c1), .val (.int (3 : Int32))] [] := by first | (simp [entryFrame, mkF, argsToLocals, Value.category]; done) | rfl
set_option maxRecDepth 65536 in
set_option maxHeartbeats 4000000 in
theorem conF3 (l : Launch) (Z : State) (a0 : Array Value) (hw : ∀ d ∈ tables_1, d.before a0 Z = true) (a1 : Addr) (c1 : Int32) (h0 : Heap) (kk : ClassId) (bs : List Int32) (V1 : Arv Z h0 a1 kk .byte 8 (bs.map Value.int) (.int 0)) (hl : 0 ≤ c1.toInt) :
    own_Con l Z (⟨"com/example/steerage/steerage/agent/HttpHeadEndPinLaw", "full", "([BII)Z"⟩ : MethodName) method_6_code 3 (some .boolean) ({ frames := 1, cells := 0, slots := 0, locals := 14 } : Room) #[(.ref a1), (.int c1), (.int (3 : Int32))] h0 (fun v h L => ∃ z : Int32, v = some (.int z) ∧ (z = own_bb ((3 < c1.toInt.toNat ∧ own_at bs 3 = 10) ∧ ¬ own_E (own_at bs) 3)) ∧ L = [] ∧ h = h0) := by
  refine own_Con_of pn_2 ?_
  intro p e s m below meth c s₁ X0 hx hby hml hret hlk hnm hown hZ e0
  have hown : s.vm.findClass "com/example/steerage/steerage/agent/HttpHeadEndPinLaw" = some m.cls := hown
  have hml : c.maxLocals = 3 := hml
  show own_WP _ _ _ _ _ _ _ (s₁.setTop (entryFrame m #[(.ref a1), (.int c1), (.int (3 : Int32))] 3))
  rw [ef_conF3 m a1 c1]
  refine own_aloadN (pc' := 1) X0 hx (hb hby d2_0) rfl rfl rfl ?_
  refine own_iloadN (pc' := 2) X0 hx (hb hby d2_1) rfl rfl ?_
  refine own_iloadN (pc' := 3) X0 hx (hb hby d2_2) rfl rfl ?_
  refine own_callS (pc' := 6) (W := 0) (y := (⟨"com/example/steerage/steerage/agent/HttpHeadEndPinLaw", "lf", "([BII)Z"⟩ : MethodName)) X0 hx hZ hown (own_w hw 9 rfl) (own_w hw 10 rfl) (own_w hw 3 rfl) (own_w hw 11 rfl) (by decide) (conLf3 l Z a0 hw a1 c1 _ kk bs V1 hl) e0 pd0 [(.ref a1), (.int c1), (.int (3 : Int32))] [] rfl rfl rfl (Nat.le_of_eq rfl) (by decide) (by decide) (by rw [hml]; rfl) (hb hby d2_3) (by decide) (by decide) rfl ?_
  intro v1 T1 L1 X1 q1
  obtain ⟨r1, rfl, hr1, rfl, e1⟩ := q1
  show own_WP _ _ _ _ _ _ _ (T1.setTop (mkF m 6 #[.val (.ref a1), .val (.int c1), .val (.int (3 : Int32))] [(.int r1)]))
  refine own_if_eq (pt := 21) (pf := 9) X1 hx (hb hby d2_6) rfl (by decide) rfl (fun hc6 => ?_) (fun hc6 => ?_)
  · skip
    refine own_iconst (pc' := 22) X1 hx (0 : Int32) (hb hby d2_21) rfl rfl ?_
    refine own_retN X1 hx hlk (t := .boolean) (by decide) hret (hb hby d2_22) (by decide) (by decide) ?_
    refine ⟨(0 : Int32), rfl, ?_, rfl, e1⟩
    have q1 := own_bb0 hr1 hc6
    rw [own_bb, if_neg (fun q => q1 q.1)]
  · skip
    refine own_aloadN (pc' := 10) X1 hx (hb hby d2_9) rfl rfl rfl ?_
    refine own_iloadN (pc' := 11) X1 hx (hb hby d2_10) rfl rfl ?_
    refine own_callS (pc' := 14) (W := 0) (y := (⟨"com/example/steerage/steerage/agent/HttpHeadEndPinLaw", "emptyAt", "([BI)Z"⟩ : MethodName)) X1 hx hZ hown (own_w hw 12 rfl) (own_w hw 13 rfl) (own_w hw 3 rfl) (own_w hw 14 rfl) (by decide) (conEm3 l Z a0 hw a1 _ kk bs V1) e1 pd1 [(.ref a1), (.int (3 : Int32))] [] rfl rfl rfl (Nat.le_of_eq rfl) (by decide) (by decide) (by rw [hml]; rfl) (hb hby d2_11) (by decide) (by decide) rfl ?_
    intro v2 T2 L2 X2 q2
    obtain ⟨r2, rfl, hr2, rfl, e2⟩ := q2
    show own_WP _ _ _ _ _ _ _ (T2.setTop (mkF m 14 #[.val (.ref a1), .val (.int c1), .val (.int (3 : Int32))] [(.int r2)]))
    refine own_if_ne (pt := 21) (pf := 17) X2 hx (hb hby d2_14) rfl (by decide) rfl (fun hc14 => ?_) (fun hc14 => ?_)
    · skip
      refine own_iconst (pc' := 22) X2 hx (0 : Int32) (hb hby d2_21) rfl rfl ?_
      refine own_retN X2 hx hlk (t := .boolean) (by decide) hret (hb hby d2_22) (by decide) (by decide) ?_
      refine ⟨(0 : Int32), rfl, ?_, rfl, e2⟩
      have q1 := own_bb1 hr1 hc6
      have q2 := own_bb1 hr2 hc14
      rw [own_bb, if_neg (fun q => q.2 q2)]
    · skip
      refine own_iconst (pc' := 18) X2 hx (1 : Int32) (hb hby d2_17) rfl rfl ?_
      refine own_goto (pc' := 22) X2 hx (hb hby d2_18) (by decide) rfl ?_
      refine own_retN X2 hx hlk (t := .boolean) (by decide) hret (hb hby d2_22) (by decide) (by decide) ?_
      refine ⟨(1 : Int32), rfl, ?_, rfl, e2⟩
      have q1 := own_bb1 hr1 hc6
      have q2 := own_bb0 hr2 hc14
      rw [own_bb, if_pos ⟨q1, q2⟩]
theorem ef_conB3 (m : MethodId) (a1 : Addr) (c1 : Int32) : entryFrame m #[(.ref a1), (.int c1), (.int (3 : Int32))] 3 = mkF m 0 #[.val (.ref a1), .val (.int c1), .val (.int (3 : Int32))] [] := by first | (simp [entryFrame, mkF, argsToLocals, Value.category]; done) | rfl
set_option maxRecDepth 65536 in
set_option maxHeartbeats 4000000 in
theorem conB3 (l : Launch) (Z : State) (a0 : Array Value) (hw : ∀ d ∈ tables_1, d.before a0 Z = true) (a1 : Addr) (c1 : Int32) (h0 : Heap) (kk : ClassId) (bs : List Int32) (V1 : Arv Z h0 a1 kk .byte 8 (bs.map Value.int) (.int 0)) (hl : 0 ≤ c1.toInt) :
    own_Con l Z (⟨"com/example/steerage/steerage/agent/HttpHeadEndPinLaw", "blank", "([BII)Z"⟩ : MethodName) method_5_code 3 (some .boolean) ({ frames := 1, cells := 0, slots := 0, locals := 14 } : Room) #[(.ref a1), (.int c1), (.int (3 : Int32))] h0 (fun v h L => ∃ z : Int32, v = some (.int z) ∧ (z = own_bb ((3 < c1.toInt.toNat ∧ own_at bs 3 = 10) ∧ own_E (own_at bs) 3)) ∧ L = [] ∧ h = h0) := by
  refine own_Con_of pn_7 ?_
  intro p e s m below meth c s₁ X0 hx hby hml hret hlk hnm hown hZ e0
  have hown : s.vm.findClass "com/example/steerage/steerage/agent/HttpHeadEndPinLaw" = some m.cls := hown
  have hml : c.maxLocals = 3 := hml
  show own_WP _ _ _ _ _ _ _ (s₁.setTop (entryFrame m #[(.ref a1), (.int c1), (.int (3 : Int32))] 3))
  rw [ef_conB3 m a1 c1]
  refine own_aloadN (pc' := 1) X0 hx (hb hby d7_0) rfl rfl rfl ?_
  refine own_iloadN (pc' := 2) X0 hx (hb hby d7_1) rfl rfl ?_
  refine own_iloadN (pc' := 3) X0 hx (hb hby d7_2) rfl rfl ?_
  refine own_callS (pc' := 6) (W := 0) (y := (⟨"com/example/steerage/steerage/agent/HttpHeadEndPinLaw", "lf", "([BII)Z"⟩ : MethodName)) X0 hx hZ hown (own_w hw 9 rfl) (own_w hw 10 rfl) (own_w hw 3 rfl) (own_w hw 11 rfl) (by decide) (conLf3 l Z a0 hw a1 c1 _ kk bs V1 hl) e0 pd0 [(.ref a1), (.int c1), (.int (3 : Int32))] [] rfl rfl rfl (Nat.le_of_eq rfl) (by decide) (by decide) (by rw [hml]; rfl) (hb hby d7_3) (by decide) (by decide) rfl ?_
  intro v1 T1 L1 X1 q1
  obtain ⟨r1, rfl, hr1, rfl, e1⟩ := q1
  show own_WP _ _ _ _ _ _ _ (T1.setTop (mkF m 6 #[.val (.ref a1), .val (.int c1), .val (.int (3 : Int32))] [(.int r1)]))
  refine own_if_eq (pt := 21) (pf := 9) X1 hx (hb hby d7_6) rfl (by decide) rfl (fun hc6 => ?_) (fun hc6 => ?_)
  · skip
    refine own_iconst (pc' := 22) X1 hx (0 : Int32) (hb hby d7_21) rfl rfl ?_
    refine own_retN X1 hx hlk (t := .boolean) (by decide) hret (hb hby d7_22) (by decide) (by decide) ?_
    refine ⟨(0 : Int32), rfl, ?_, rfl, e1⟩
    have q1 := own_bb0 hr1 hc6
    rw [own_bb, if_neg (fun q => q1 q.1)]
  · skip
    refine own_aloadN (pc' := 10) X1 hx (hb hby d7_9) rfl rfl rfl ?_
    refine own_iloadN (pc' := 11) X1 hx (hb hby d7_10) rfl rfl ?_
    refine own_callS (pc' := 14) (W := 0) (y := (⟨"com/example/steerage/steerage/agent/HttpHeadEndPinLaw", "emptyAt", "([BI)Z"⟩ : MethodName)) X1 hx hZ hown (own_w hw 12 rfl) (own_w hw 13 rfl) (own_w hw 3 rfl) (own_w hw 14 rfl) (by decide) (conEm3 l Z a0 hw a1 _ kk bs V1) e1 pd1 [(.ref a1), (.int (3 : Int32))] [] rfl rfl rfl (Nat.le_of_eq rfl) (by decide) (by decide) (by rw [hml]; rfl) (hb hby d7_11) (by decide) (by decide) rfl ?_
    intro v2 T2 L2 X2 q2
    obtain ⟨r2, rfl, hr2, rfl, e2⟩ := q2
    show own_WP _ _ _ _ _ _ _ (T2.setTop (mkF m 14 #[.val (.ref a1), .val (.int c1), .val (.int (3 : Int32))] [(.int r2)]))
    refine own_if_eq (pt := 21) (pf := 17) X2 hx (hb hby d7_14) rfl (by decide) rfl (fun hc14 => ?_) (fun hc14 => ?_)
    · skip
      refine own_iconst (pc' := 22) X2 hx (0 : Int32) (hb hby d7_21) rfl rfl ?_
      refine own_retN X2 hx hlk (t := .boolean) (by decide) hret (hb hby d7_22) (by decide) (by decide) ?_
      refine ⟨(0 : Int32), rfl, ?_, rfl, e2⟩
      have q1 := own_bb1 hr1 hc6
      have q2 := own_bb0 hr2 hc14
      rw [own_bb, if_neg (fun q => q2 q.2)]
    · skip
      refine own_iconst (pc' := 18) X2 hx (1 : Int32) (hb hby d7_17) rfl rfl ?_
      refine own_goto (pc' := 22) X2 hx (hb hby d7_18) (by decide) rfl ?_
      refine own_retN X2 hx hlk (t := .boolean) (by decide) hret (hb hby d7_22) (by decide) (by decide) ?_
      refine ⟨(1 : Int32), rfl, ?_, rfl, e2⟩
      have q1 := own_bb1 hr1 hc6
      have q2 := own_bb1 hr2 hc14
      rw [own_bb, if_pos ⟨q1, q2⟩]
theorem ef_conLf4 (m : MethodId) (a1 : Addr) (c1 : Int32) : entryFrame m #[(.ref a1), (.int c1), (.int (4 : Int32))] 3 = mkF m 0 #[.val (.ref a1), .val (.int c1), .val (.int (4 : Int32))] [] := by first | (simp [entryFrame, mkF, argsToLocals, Value.category]; done) | rfl
set_option maxRecDepth 65536 in
set_option maxHeartbeats 4000000 in
theorem conLf4 (l : Launch) (Z : State) (a0 : Array Value) (hw : ∀ d ∈ tables_1, d.before a0 Z = true) (a1 : Addr) (c1 : Int32) (h0 : Heap) (kk : ClassId) (bs : List Int32) (V1 : Arv Z h0 a1 kk .byte 8 (bs.map Value.int) (.int 0)) (hl : 0 ≤ c1.toInt) :
    own_Con l Z (⟨"com/example/steerage/steerage/agent/HttpHeadEndPinLaw", "lf", "([BII)Z"⟩ : MethodName) method_3_code 3 (some .boolean) ({ frames := 0, cells := 0, slots := 0, locals := 0 } : Room) #[(.ref a1), (.int c1), (.int (4 : Int32))] h0 (fun v h L => ∃ z : Int32, v = some (.int z) ∧ (z = own_bb (4 < c1.toInt.toNat ∧ own_at bs 4 = 10)) ∧ L = [] ∧ h = h0) := by
  refine own_Con_of pn_3 ?_
  intro p e s m below meth c s₁ X0 hx hby hml hret hlk hnm hown hZ e0
  have hown : s.vm.findClass "com/example/steerage/steerage/agent/HttpHeadEndPinLaw" = some m.cls := hown
  have hml : c.maxLocals = 3 := hml
  show own_WP _ _ _ _ _ _ _ (s₁.setTop (entryFrame m #[(.ref a1), (.int c1), (.int (4 : Int32))] 3))
  rw [ef_conLf4 m a1 c1]
  refine own_iloadN (pc' := 1) X0 hx (hb hby d3_0) rfl rfl ?_
  refine own_iloadN (pc' := 2) X0 hx (hb hby d3_1) rfl rfl ?_
  refine own_icmp_ge (pt := 17) (pf := 5) X0 hx (hb hby d3_2) rfl (by decide) rfl (fun hc2 => ?_) (fun hc2 => ?_)
  · skip
    refine own_iconst (pc' := 18) X0 hx (0 : Int32) (hb hby d3_17) rfl rfl ?_
    refine own_retN X0 hx hlk (t := .boolean) (by decide) hret (hb hby d3_18) (by decide) (by decide) ?_
    refine ⟨(0 : Int32), rfl, ?_, rfl, e0⟩
    have q := own_lit (i := 4) (v := 4) hl (by decide)
    rw [own_bb, if_neg (fun z => hc2 (q.mpr z.1))]
  · skip
    refine own_aloadN (pc' := 6) X0 hx (hb hby d3_5) rfl rfl rfl ?_
    refine own_iloadN (pc' := 7) X0 hx (hb hby d3_6) rfl rfl ?_
    refine own_baload (pc' := 8) (v := (.int (own_at bs 4))) X0 hx hZ e0 V1 ⟨by decide, by decide⟩ (own_getm bs 4) (hb hby d3_7) rfl ?_
    refine own_bipush (pc' := 10) X0 hx (10 : Int32) (hb hby d3_8) rfl rfl ?_
    refine own_icmp_ne (pt := 17) (pf := 13) X0 hx (hb hby d3_10) rfl (by decide) rfl (fun hc10 => ?_) (fun hc10 => ?_)
    · skip
      refine own_iconst (pc' := 18) X0 hx (0 : Int32) (hb hby d3_17) rfl rfl ?_
      refine own_retN X0 hx hlk (t := .boolean) (by decide) hret (hb hby d3_18) (by decide) (by decide) ?_
      refine ⟨(0 : Int32), rfl, ?_, rfl, e0⟩
      have q := own_lit (i := 4) (v := 4) hl (by decide)
      rw [own_bb, if_neg (fun z => hc10 z.2)]
    · skip
      refine own_iconst (pc' := 14) X0 hx (1 : Int32) (hb hby d3_13) rfl rfl ?_
      refine own_goto (pc' := 18) X0 hx (hb hby d3_14) (by decide) rfl ?_
      refine own_retN X0 hx hlk (t := .boolean) (by decide) hret (hb hby d3_18) (by decide) (by decide) ?_
      refine ⟨(1 : Int32), rfl, ?_, rfl, e0⟩
      have q := own_lit (i := 4) (v := 4) hl (by decide)
      rw [own_bb, if_pos ⟨q.mp hc2, hc10⟩]
theorem ef_conEm4 (m : MethodId) (a1 : Addr) : entryFrame m #[(.ref a1), (.int (4 : Int32))] 2 = mkF m 0 #[.val (.ref a1), .val (.int (4 : Int32))] [] := by first | (simp [entryFrame, mkF, argsToLocals, Value.category]; done) | rfl
set_option maxRecDepth 65536 in
set_option maxHeartbeats 4000000 in
theorem conEm4 (l : Launch) (Z : State) (a0 : Array Value) (hw : ∀ d ∈ tables_1, d.before a0 Z = true) (a1 : Addr) (h0 : Heap) (kk : ClassId) (bs : List Int32) (V1 : Arv Z h0 a1 kk .byte 8 (bs.map Value.int) (.int 0)) :
    own_Con l Z (⟨"com/example/steerage/steerage/agent/HttpHeadEndPinLaw", "emptyAt", "([BI)Z"⟩ : MethodName) method_4_code 2 (some .boolean) ({ frames := 0, cells := 0, slots := 0, locals := 0 } : Room) #[(.ref a1), (.int (4 : Int32))] h0 (fun v h L => ∃ z : Int32, v = some (.int z) ∧ (z = own_bb (own_E (own_at bs) 4)) ∧ L = [] ∧ h = h0) := by
  refine own_Con_of pn_4 ?_
  intro p e s m below meth c s₁ X0 hx hby hml hret hlk hnm hown hZ e0
  have hown : s.vm.findClass "com/example/steerage/steerage/agent/HttpHeadEndPinLaw" = some m.cls := hown
  have hml : c.maxLocals = 2 := hml
  show own_WP _ _ _ _ _ _ _ (s₁.setTop (entryFrame m #[(.ref a1), (.int (4 : Int32))] 2))
  rw [ef_conEm4 m a1]
  refine own_iloadN (pc' := 1) X0 hx (hb hby d4_0) rfl rfl ?_
  refine own_if_ne (pt := 6) (pf := 4) X0 hx (hb hby d4_1) rfl (by decide) rfl (fun hc1 => ?_) (fun hc1 => absurd hc1 (by decide))
  refine own_aloadN (pc' := 7) X0 hx (hb hby d4_6) rfl rfl rfl ?_
  refine own_iloadN (pc' := 8) X0 hx (hb hby d4_7) rfl rfl ?_
  refine own_iconst (pc' := 9) X0 hx (1 : Int32) (hb hby d4_8) rfl rfl ?_
  refine own_isub (pc' := 10) X0 hx (hb hby d4_9) rfl ?_
  show own_WP _ _ _ _ _ _ _ (s₁.setTop (mkF m 10 #[.val (.ref a1), .val (.int (4 : Int32))] [(.int (3 : Int32)), (.ref a1)]))
  refine own_baload (pc' := 11) (v := (.int (own_at bs 3))) X0 hx hZ e0 V1 ⟨by decide, by decide⟩ (own_getm bs 3) (hb hby d4_10) rfl ?_
  refine own_bipush (pc' := 13) X0 hx (10 : Int32) (hb hby d4_11) rfl rfl ?_
  refine own_icmp_ne (pt := 18) (pf := 16) X0 hx (hb hby d4_13) rfl (by decide) rfl (fun hc13 => ?_) (fun hc13 => ?_)
  · skip
    refine own_aloadN (pc' := 19) X0 hx (hb hby d4_18) rfl rfl rfl ?_
    refine own_iloadN (pc' := 20) X0 hx (hb hby d4_19) rfl rfl ?_
    refine own_iconst (pc' := 21) X0 hx (1 : Int32) (hb hby d4_20) rfl rfl ?_
    refine own_isub (pc' := 22) X0 hx (hb hby d4_21) rfl ?_
    show own_WP _ _ _ _ _ _ _ (s₁.setTop (mkF m 22 #[.val (.ref a1), .val (.int (4 : Int32))] [(.int (3 : Int32)), (.ref a1)]))
    refine own_baload (pc' := 23) (v := (.int (own_at bs 3))) X0 hx hZ e0 V1 ⟨by decide, by decide⟩ (own_getm bs 3) (hb hby d4_22) rfl ?_
    refine own_bipush (pc' := 25) X0 hx (13 : Int32) (hb hby d4_23) rfl rfl ?_
    refine own_icmp_ne (pt := 51) (pf := 28) X0 hx (hb hby d4_25) rfl (by decide) rfl (fun hc25 => ?_) (fun hc25 => ?_)
    · skip
      refine own_iconst (pc' := 52) X0 hx (0 : Int32) (hb hby d4_51) rfl rfl ?_
      refine own_retN X0 hx hlk (t := .boolean) (by decide) hret (hb hby d4_52) (by decide) (by decide) ?_
      refine ⟨(0 : Int32), rfl, ?_, rfl, e0⟩
      simp [own_bb, own_E, hc13, hc25]
    · skip
      refine own_iloadN (pc' := 29) X0 hx (hb hby d4_28) rfl rfl ?_
      refine own_iconst (pc' := 30) X0 hx (1 : Int32) (hb hby d4_29) rfl rfl ?_
      refine own_icmp_ne (pt := 35) (pf := 33) X0 hx (hb hby d4_30) rfl (by decide) rfl (fun hc30 => ?_) (fun hc30 => absurd hc30 (by decide))
      refine own_aloadN (pc' := 36) X0 hx (hb hby d4_35) rfl rfl rfl ?_
      refine own_iloadN (pc' := 37) X0 hx (hb hby d4_36) rfl rfl ?_
      refine own_iconst (pc' := 38) X0 hx (2 : Int32) (hb hby d4_37) rfl rfl ?_
      refine own_isub (pc' := 39) X0 hx (hb hby d4_38) rfl ?_
      show own_WP _ _ _ _ _ _ _ (s₁.setTop (mkF m 39 #[.val (.ref a1), .val (.int (4 : Int32))] [(.int (2 : Int32)), (.ref a1)]))
      refine own_baload (pc' := 40) (v := (.int (own_at bs 2))) X0 hx hZ e0 V1 ⟨by decide, by decide⟩ (own_getm bs 2) (hb hby d4_39) rfl ?_
      refine own_bipush (pc' := 42) X0 hx (10 : Int32) (hb hby d4_40) rfl rfl ?_
      refine own_icmp_ne (pt := 49) (pf := 45) X0 hx (hb hby d4_42) rfl (by decide) rfl (fun hc42 => ?_) (fun hc42 => ?_)
      · skip
        refine own_iconst (pc' := 50) X0 hx (0 : Int32) (hb hby d4_49) rfl rfl ?_
        refine own_retN X0 hx hlk (t := .boolean) (by decide) hret (hb hby d4_50) (by decide) (by decide) ?_
        refine ⟨(0 : Int32), rfl, ?_, rfl, e0⟩
        simp [own_bb, own_E, hc13, hc25, hc42]
      · skip
        refine own_iconst (pc' := 46) X0 hx (1 : Int32) (hb hby d4_45) rfl rfl ?_
        refine own_goto (pc' := 50) X0 hx (hb hby d4_46) (by decide) rfl ?_
        refine own_retN X0 hx hlk (t := .boolean) (by decide) hret (hb hby d4_50) (by decide) (by decide) ?_
        refine ⟨(1 : Int32), rfl, ?_, rfl, e0⟩
        simp [own_bb, own_E, hc13, hc25, hc42]
  · skip
    refine own_iconst (pc' := 17) X0 hx (1 : Int32) (hb hby d4_16) rfl rfl ?_
    refine own_retN X0 hx hlk (t := .boolean) (by decide) hret (hb hby d4_17) (by decide) (by decide) ?_
    refine ⟨(1 : Int32), rfl, ?_, rfl, e0⟩
    simp [own_bb, own_E, hc13]
theorem ef_conF4 (m : MethodId) (a1 : Addr) (c1 : Int32) : entryFrame m #[(.ref a1), (.int c1), (.int (4 : Int32))] 3 = mkF m 0 #[.val (.ref a1), .val (.int c1), .val (.int (4 : Int32))] [] := by first | (simp [entryFrame, mkF, argsToLocals, Value.category]; done) | rfl
set_option maxRecDepth 65536 in
set_option maxHeartbeats 4000000 in
theorem conF4 (l : Launch) (Z : State) (a0 : Array Value) (hw : ∀ d ∈ tables_1, d.before a0 Z = true) (a1 : Addr) (c1 : Int32) (h0 : Heap) (kk : ClassId) (bs : List Int32) (V1 : Arv Z h0 a1 kk .byte 8 (bs.map Value.int) (.int 0)) (hl : 0 ≤ c1.toInt) :
    own_Con l Z (⟨"com/example/steerage/steerage/agent/HttpHeadEndPinLaw", "full", "([BII)Z"⟩ : MethodName) method_6_code 3 (some .boolean) ({ frames := 1, cells := 0, slots := 0, locals := 14 } : Room) #[(.ref a1), (.int c1), (.int (4 : Int32))] h0 (fun v h L => ∃ z : Int32, v = some (.int z) ∧ (z = own_bb ((4 < c1.toInt.toNat ∧ own_at bs 4 = 10) ∧ ¬ own_E (own_at bs) 4)) ∧ L = [] ∧ h = h0) := by
  refine own_Con_of pn_2 ?_
  intro p e s m below meth c s₁ X0 hx hby hml hret hlk hnm hown hZ e0
  have hown : s.vm.findClass "com/example/steerage/steerage/agent/HttpHeadEndPinLaw" = some m.cls := hown
  have hml : c.maxLocals = 3 := hml
  show own_WP _ _ _ _ _ _ _ (s₁.setTop (entryFrame m #[(.ref a1), (.int c1), (.int (4 : Int32))] 3))
  rw [ef_conF4 m a1 c1]
  refine own_aloadN (pc' := 1) X0 hx (hb hby d2_0) rfl rfl rfl ?_
  refine own_iloadN (pc' := 2) X0 hx (hb hby d2_1) rfl rfl ?_
  refine own_iloadN (pc' := 3) X0 hx (hb hby d2_2) rfl rfl ?_
  refine own_callS (pc' := 6) (W := 0) (y := (⟨"com/example/steerage/steerage/agent/HttpHeadEndPinLaw", "lf", "([BII)Z"⟩ : MethodName)) X0 hx hZ hown (own_w hw 9 rfl) (own_w hw 10 rfl) (own_w hw 3 rfl) (own_w hw 11 rfl) (by decide) (conLf4 l Z a0 hw a1 c1 _ kk bs V1 hl) e0 pd0 [(.ref a1), (.int c1), (.int (4 : Int32))] [] rfl rfl rfl (Nat.le_of_eq rfl) (by decide) (by decide) (by rw [hml]; rfl) (hb hby d2_3) (by decide) (by decide) rfl ?_
  intro v1 T1 L1 X1 q1
  obtain ⟨r1, rfl, hr1, rfl, e1⟩ := q1
  show own_WP _ _ _ _ _ _ _ (T1.setTop (mkF m 6 #[.val (.ref a1), .val (.int c1), .val (.int (4 : Int32))] [(.int r1)]))
  refine own_if_eq (pt := 21) (pf := 9) X1 hx (hb hby d2_6) rfl (by decide) rfl (fun hc6 => ?_) (fun hc6 => ?_)
  · skip
    refine own_iconst (pc' := 22) X1 hx (0 : Int32) (hb hby d2_21) rfl rfl ?_
    refine own_retN X1 hx hlk (t := .boolean) (by decide) hret (hb hby d2_22) (by decide) (by decide) ?_
    refine ⟨(0 : Int32), rfl, ?_, rfl, e1⟩
    have q1 := own_bb0 hr1 hc6
    rw [own_bb, if_neg (fun q => q1 q.1)]
  · skip
    refine own_aloadN (pc' := 10) X1 hx (hb hby d2_9) rfl rfl rfl ?_
    refine own_iloadN (pc' := 11) X1 hx (hb hby d2_10) rfl rfl ?_
    refine own_callS (pc' := 14) (W := 0) (y := (⟨"com/example/steerage/steerage/agent/HttpHeadEndPinLaw", "emptyAt", "([BI)Z"⟩ : MethodName)) X1 hx hZ hown (own_w hw 12 rfl) (own_w hw 13 rfl) (own_w hw 3 rfl) (own_w hw 14 rfl) (by decide) (conEm4 l Z a0 hw a1 _ kk bs V1) e1 pd1 [(.ref a1), (.int (4 : Int32))] [] rfl rfl rfl (Nat.le_of_eq rfl) (by decide) (by decide) (by rw [hml]; rfl) (hb hby d2_11) (by decide) (by decide) rfl ?_
    intro v2 T2 L2 X2 q2
    obtain ⟨r2, rfl, hr2, rfl, e2⟩ := q2
    show own_WP _ _ _ _ _ _ _ (T2.setTop (mkF m 14 #[.val (.ref a1), .val (.int c1), .val (.int (4 : Int32))] [(.int r2)]))
    refine own_if_ne (pt := 21) (pf := 17) X2 hx (hb hby d2_14) rfl (by decide) rfl (fun hc14 => ?_) (fun hc14 => ?_)
    · skip
      refine own_iconst (pc' := 22) X2 hx (0 : Int32) (hb hby d2_21) rfl rfl ?_
      refine own_retN X2 hx hlk (t := .boolean) (by decide) hret (hb hby d2_22) (by decide) (by decide) ?_
      refine ⟨(0 : Int32), rfl, ?_, rfl, e2⟩
      have q1 := own_bb1 hr1 hc6
      have q2 := own_bb1 hr2 hc14
      rw [own_bb, if_neg (fun q => q.2 q2)]
    · skip
      refine own_iconst (pc' := 18) X2 hx (1 : Int32) (hb hby d2_17) rfl rfl ?_
      refine own_goto (pc' := 22) X2 hx (hb hby d2_18) (by decide) rfl ?_
      refine own_retN X2 hx hlk (t := .boolean) (by decide) hret (hb hby d2_22) (by decide) (by decide) ?_
      refine ⟨(1 : Int32), rfl, ?_, rfl, e2⟩
      have q1 := own_bb1 hr1 hc6
      have q2 := own_bb0 hr2 hc14
      rw [own_bb, if_pos ⟨q1, q2⟩]
theorem ef_conB4 (m : MethodId) (a1 : Addr) (c1 : Int32) : entryFrame m #[(.ref a1), (.int c1), (.int (4 : Int32))] 3 = mkF m 0 #[.val (.ref a1), .val (.int c1), .val (.int (4 : Int32))] [] := by first | (simp [entryFrame, mkF, argsToLocals, Value.category]; done) | rfl
set_option maxRecDepth 65536 in
set_option maxHeartbeats 4000000 in
theorem conB4 (l : Launch) (Z : State) (a0 : Array Value) (hw : ∀ d ∈ tables_1, d.before a0 Z = true) (a1 : Addr) (c1 : Int32) (h0 : Heap) (kk : ClassId) (bs : List Int32) (V1 : Arv Z h0 a1 kk .byte 8 (bs.map Value.int) (.int 0)) (hl : 0 ≤ c1.toInt) :
    own_Con l Z (⟨"com/example/steerage/steerage/agent/HttpHeadEndPinLaw", "blank", "([BII)Z"⟩ : MethodName) method_5_code 3 (some .boolean) ({ frames := 1, cells := 0, slots := 0, locals := 14 } : Room) #[(.ref a1), (.int c1), (.int (4 : Int32))] h0 (fun v h L => ∃ z : Int32, v = some (.int z) ∧ (z = own_bb ((4 < c1.toInt.toNat ∧ own_at bs 4 = 10) ∧ own_E (own_at bs) 4)) ∧ L = [] ∧ h = h0) := by
  refine own_Con_of pn_7 ?_
  intro p e s m below meth c s₁ X0 hx hby hml hret hlk hnm hown hZ e0
  have hown : s.vm.findClass "com/example/steerage/steerage/agent/HttpHeadEndPinLaw" = some m.cls := hown
  have hml : c.maxLocals = 3 := hml
  show own_WP _ _ _ _ _ _ _ (s₁.setTop (entryFrame m #[(.ref a1), (.int c1), (.int (4 : Int32))] 3))
  rw [ef_conB4 m a1 c1]
  refine own_aloadN (pc' := 1) X0 hx (hb hby d7_0) rfl rfl rfl ?_
  refine own_iloadN (pc' := 2) X0 hx (hb hby d7_1) rfl rfl ?_
  refine own_iloadN (pc' := 3) X0 hx (hb hby d7_2) rfl rfl ?_
  refine own_callS (pc' := 6) (W := 0) (y := (⟨"com/example/steerage/steerage/agent/HttpHeadEndPinLaw", "lf", "([BII)Z"⟩ : MethodName)) X0 hx hZ hown (own_w hw 9 rfl) (own_w hw 10 rfl) (own_w hw 3 rfl) (own_w hw 11 rfl) (by decide) (conLf4 l Z a0 hw a1 c1 _ kk bs V1 hl) e0 pd0 [(.ref a1), (.int c1), (.int (4 : Int32))] [] rfl rfl rfl (Nat.le_of_eq rfl) (by decide) (by decide) (by rw [hml]; rfl) (hb hby d7_3) (by decide) (by decide) rfl ?_
  intro v1 T1 L1 X1 q1
  obtain ⟨r1, rfl, hr1, rfl, e1⟩ := q1
  show own_WP _ _ _ _ _ _ _ (T1.setTop (mkF m 6 #[.val (.ref a1), .val (.int c1), .val (.int (4 : Int32))] [(.int r1)]))
  refine own_if_eq (pt := 21) (pf := 9) X1 hx (hb hby d7_6) rfl (by decide) rfl (fun hc6 => ?_) (fun hc6 => ?_)
  · skip
    refine own_iconst (pc' := 22) X1 hx (0 : Int32) (hb hby d7_21) rfl rfl ?_
    refine own_retN X1 hx hlk (t := .boolean) (by decide) hret (hb hby d7_22) (by decide) (by decide) ?_
    refine ⟨(0 : Int32), rfl, ?_, rfl, e1⟩
    have q1 := own_bb0 hr1 hc6
    rw [own_bb, if_neg (fun q => q1 q.1)]
  · skip
    refine own_aloadN (pc' := 10) X1 hx (hb hby d7_9) rfl rfl rfl ?_
    refine own_iloadN (pc' := 11) X1 hx (hb hby d7_10) rfl rfl ?_
    refine own_callS (pc' := 14) (W := 0) (y := (⟨"com/example/steerage/steerage/agent/HttpHeadEndPinLaw", "emptyAt", "([BI)Z"⟩ : MethodName)) X1 hx hZ hown (own_w hw 12 rfl) (own_w hw 13 rfl) (own_w hw 3 rfl) (own_w hw 14 rfl) (by decide) (conEm4 l Z a0 hw a1 _ kk bs V1) e1 pd1 [(.ref a1), (.int (4 : Int32))] [] rfl rfl rfl (Nat.le_of_eq rfl) (by decide) (by decide) (by rw [hml]; rfl) (hb hby d7_11) (by decide) (by decide) rfl ?_
    intro v2 T2 L2 X2 q2
    obtain ⟨r2, rfl, hr2, rfl, e2⟩ := q2
    show own_WP _ _ _ _ _ _ _ (T2.setTop (mkF m 14 #[.val (.ref a1), .val (.int c1), .val (.int (4 : Int32))] [(.int r2)]))
    refine own_if_eq (pt := 21) (pf := 17) X2 hx (hb hby d7_14) rfl (by decide) rfl (fun hc14 => ?_) (fun hc14 => ?_)
    · skip
      refine own_iconst (pc' := 22) X2 hx (0 : Int32) (hb hby d7_21) rfl rfl ?_
      refine own_retN X2 hx hlk (t := .boolean) (by decide) hret (hb hby d7_22) (by decide) (by decide) ?_
      refine ⟨(0 : Int32), rfl, ?_, rfl, e2⟩
      have q1 := own_bb1 hr1 hc6
      have q2 := own_bb0 hr2 hc14
      rw [own_bb, if_neg (fun q => q2 q.2)]
    · skip
      refine own_iconst (pc' := 18) X2 hx (1 : Int32) (hb hby d7_17) rfl rfl ?_
      refine own_goto (pc' := 22) X2 hx (hb hby d7_18) (by decide) rfl ?_
      refine own_retN X2 hx hlk (t := .boolean) (by decide) hret (hb hby d7_22) (by decide) (by decide) ?_
      refine ⟨(1 : Int32), rfl, ?_, rfl, e2⟩
      have q1 := own_bb1 hr1 hc6
      have q2 := own_bb1 hr2 hc14
      rw [own_bb, if_pos ⟨q1, q2⟩]
theorem ef_conLf5 (m : MethodId) (a1 : Addr) (c1 : Int32) : entryFrame m #[(.ref a1), (.int c1), (.int (5 : Int32))] 3 = mkF m 0 #[.val (.ref a1), .val (.int c1), .val (.int (5 : Int32))] [] := by first | (simp [entryFrame, mkF, argsToLocals, Value.category]; done) | rfl
set_option maxRecDepth 65536 in
set_option maxHeartbeats 4000000 in
theorem conLf5 (l : Launch) (Z : State) (a0 : Array Value) (hw : ∀ d ∈ tables_1, d.before a0 Z = true) (a1 : Addr) (c1 : Int32) (h0 : Heap) (kk : ClassId) (bs : List Int32) (V1 : Arv Z h0 a1 kk .byte 8 (bs.map Value.int) (.int 0)) (hl : 0 ≤ c1.toInt) :
    own_Con l Z (⟨"com/example/steerage/steerage/agent/HttpHeadEndPinLaw", "lf", "([BII)Z"⟩ : MethodName) method_3_code 3 (some .boolean) ({ frames := 0, cells := 0, slots := 0, locals := 0 } : Room) #[(.ref a1), (.int c1), (.int (5 : Int32))] h0 (fun v h L => ∃ z : Int32, v = some (.int z) ∧ (z = own_bb (5 < c1.toInt.toNat ∧ own_at bs 5 = 10)) ∧ L = [] ∧ h = h0) := by
  refine own_Con_of pn_3 ?_
  intro p e s m below meth c s₁ X0 hx hby hml hret hlk hnm hown hZ e0
  have hown : s.vm.findClass "com/example/steerage/steerage/agent/HttpHeadEndPinLaw" = some m.cls := hown
  have hml : c.maxLocals = 3 := hml
  show own_WP _ _ _ _ _ _ _ (s₁.setTop (entryFrame m #[(.ref a1), (.int c1), (.int (5 : Int32))] 3))
  rw [ef_conLf5 m a1 c1]
  refine own_iloadN (pc' := 1) X0 hx (hb hby d3_0) rfl rfl ?_
  refine own_iloadN (pc' := 2) X0 hx (hb hby d3_1) rfl rfl ?_
  refine own_icmp_ge (pt := 17) (pf := 5) X0 hx (hb hby d3_2) rfl (by decide) rfl (fun hc2 => ?_) (fun hc2 => ?_)
  · skip
    refine own_iconst (pc' := 18) X0 hx (0 : Int32) (hb hby d3_17) rfl rfl ?_
    refine own_retN X0 hx hlk (t := .boolean) (by decide) hret (hb hby d3_18) (by decide) (by decide) ?_
    refine ⟨(0 : Int32), rfl, ?_, rfl, e0⟩
    have q := own_lit (i := 5) (v := 5) hl (by decide)
    rw [own_bb, if_neg (fun z => hc2 (q.mpr z.1))]
  · skip
    refine own_aloadN (pc' := 6) X0 hx (hb hby d3_5) rfl rfl rfl ?_
    refine own_iloadN (pc' := 7) X0 hx (hb hby d3_6) rfl rfl ?_
    refine own_baload (pc' := 8) (v := (.int (own_at bs 5))) X0 hx hZ e0 V1 ⟨by decide, by decide⟩ (own_getm bs 5) (hb hby d3_7) rfl ?_
    refine own_bipush (pc' := 10) X0 hx (10 : Int32) (hb hby d3_8) rfl rfl ?_
    refine own_icmp_ne (pt := 17) (pf := 13) X0 hx (hb hby d3_10) rfl (by decide) rfl (fun hc10 => ?_) (fun hc10 => ?_)
    · skip
      refine own_iconst (pc' := 18) X0 hx (0 : Int32) (hb hby d3_17) rfl rfl ?_
      refine own_retN X0 hx hlk (t := .boolean) (by decide) hret (hb hby d3_18) (by decide) (by decide) ?_
      refine ⟨(0 : Int32), rfl, ?_, rfl, e0⟩
      have q := own_lit (i := 5) (v := 5) hl (by decide)
      rw [own_bb, if_neg (fun z => hc10 z.2)]
    · skip
      refine own_iconst (pc' := 14) X0 hx (1 : Int32) (hb hby d3_13) rfl rfl ?_
      refine own_goto (pc' := 18) X0 hx (hb hby d3_14) (by decide) rfl ?_
      refine own_retN X0 hx hlk (t := .boolean) (by decide) hret (hb hby d3_18) (by decide) (by decide) ?_
      refine ⟨(1 : Int32), rfl, ?_, rfl, e0⟩
      have q := own_lit (i := 5) (v := 5) hl (by decide)
      rw [own_bb, if_pos ⟨q.mp hc2, hc10⟩]
theorem ef_conEm5 (m : MethodId) (a1 : Addr) : entryFrame m #[(.ref a1), (.int (5 : Int32))] 2 = mkF m 0 #[.val (.ref a1), .val (.int (5 : Int32))] [] := by first | (simp [entryFrame, mkF, argsToLocals, Value.category]; done) | rfl
set_option maxRecDepth 65536 in
set_option maxHeartbeats 4000000 in
theorem conEm5 (l : Launch) (Z : State) (a0 : Array Value) (hw : ∀ d ∈ tables_1, d.before a0 Z = true) (a1 : Addr) (h0 : Heap) (kk : ClassId) (bs : List Int32) (V1 : Arv Z h0 a1 kk .byte 8 (bs.map Value.int) (.int 0)) :
    own_Con l Z (⟨"com/example/steerage/steerage/agent/HttpHeadEndPinLaw", "emptyAt", "([BI)Z"⟩ : MethodName) method_4_code 2 (some .boolean) ({ frames := 0, cells := 0, slots := 0, locals := 0 } : Room) #[(.ref a1), (.int (5 : Int32))] h0 (fun v h L => ∃ z : Int32, v = some (.int z) ∧ (z = own_bb (own_E (own_at bs) 5)) ∧ L = [] ∧ h = h0) := by
  refine own_Con_of pn_4 ?_
  intro p e s m below meth c s₁ X0 hx hby hml hret hlk hnm hown hZ e0
  have hown : s.vm.findClass "com/example/steerage/steerage/agent/HttpHeadEndPinLaw" = some m.cls := hown
  have hml : c.maxLocals = 2 := hml
  show own_WP _ _ _ _ _ _ _ (s₁.setTop (entryFrame m #[(.ref a1), (.int (5 : Int32))] 2))
  rw [ef_conEm5 m a1]
  refine own_iloadN (pc' := 1) X0 hx (hb hby d4_0) rfl rfl ?_
  refine own_if_ne (pt := 6) (pf := 4) X0 hx (hb hby d4_1) rfl (by decide) rfl (fun hc1 => ?_) (fun hc1 => absurd hc1 (by decide))
  refine own_aloadN (pc' := 7) X0 hx (hb hby d4_6) rfl rfl rfl ?_
  refine own_iloadN (pc' := 8) X0 hx (hb hby d4_7) rfl rfl ?_
  refine own_iconst (pc' := 9) X0 hx (1 : Int32) (hb hby d4_8) rfl rfl ?_
  refine own_isub (pc' := 10) X0 hx (hb hby d4_9) rfl ?_
  show own_WP _ _ _ _ _ _ _ (s₁.setTop (mkF m 10 #[.val (.ref a1), .val (.int (5 : Int32))] [(.int (4 : Int32)), (.ref a1)]))
  refine own_baload (pc' := 11) (v := (.int (own_at bs 4))) X0 hx hZ e0 V1 ⟨by decide, by decide⟩ (own_getm bs 4) (hb hby d4_10) rfl ?_
  refine own_bipush (pc' := 13) X0 hx (10 : Int32) (hb hby d4_11) rfl rfl ?_
  refine own_icmp_ne (pt := 18) (pf := 16) X0 hx (hb hby d4_13) rfl (by decide) rfl (fun hc13 => ?_) (fun hc13 => ?_)
  · skip
    refine own_aloadN (pc' := 19) X0 hx (hb hby d4_18) rfl rfl rfl ?_
    refine own_iloadN (pc' := 20) X0 hx (hb hby d4_19) rfl rfl ?_
    refine own_iconst (pc' := 21) X0 hx (1 : Int32) (hb hby d4_20) rfl rfl ?_
    refine own_isub (pc' := 22) X0 hx (hb hby d4_21) rfl ?_
    show own_WP _ _ _ _ _ _ _ (s₁.setTop (mkF m 22 #[.val (.ref a1), .val (.int (5 : Int32))] [(.int (4 : Int32)), (.ref a1)]))
    refine own_baload (pc' := 23) (v := (.int (own_at bs 4))) X0 hx hZ e0 V1 ⟨by decide, by decide⟩ (own_getm bs 4) (hb hby d4_22) rfl ?_
    refine own_bipush (pc' := 25) X0 hx (13 : Int32) (hb hby d4_23) rfl rfl ?_
    refine own_icmp_ne (pt := 51) (pf := 28) X0 hx (hb hby d4_25) rfl (by decide) rfl (fun hc25 => ?_) (fun hc25 => ?_)
    · skip
      refine own_iconst (pc' := 52) X0 hx (0 : Int32) (hb hby d4_51) rfl rfl ?_
      refine own_retN X0 hx hlk (t := .boolean) (by decide) hret (hb hby d4_52) (by decide) (by decide) ?_
      refine ⟨(0 : Int32), rfl, ?_, rfl, e0⟩
      simp [own_bb, own_E, hc13, hc25]
    · skip
      refine own_iloadN (pc' := 29) X0 hx (hb hby d4_28) rfl rfl ?_
      refine own_iconst (pc' := 30) X0 hx (1 : Int32) (hb hby d4_29) rfl rfl ?_
      refine own_icmp_ne (pt := 35) (pf := 33) X0 hx (hb hby d4_30) rfl (by decide) rfl (fun hc30 => ?_) (fun hc30 => absurd hc30 (by decide))
      refine own_aloadN (pc' := 36) X0 hx (hb hby d4_35) rfl rfl rfl ?_
      refine own_iloadN (pc' := 37) X0 hx (hb hby d4_36) rfl rfl ?_
      refine own_iconst (pc' := 38) X0 hx (2 : Int32) (hb hby d4_37) rfl rfl ?_
      refine own_isub (pc' := 39) X0 hx (hb hby d4_38) rfl ?_
      show own_WP _ _ _ _ _ _ _ (s₁.setTop (mkF m 39 #[.val (.ref a1), .val (.int (5 : Int32))] [(.int (3 : Int32)), (.ref a1)]))
      refine own_baload (pc' := 40) (v := (.int (own_at bs 3))) X0 hx hZ e0 V1 ⟨by decide, by decide⟩ (own_getm bs 3) (hb hby d4_39) rfl ?_
      refine own_bipush (pc' := 42) X0 hx (10 : Int32) (hb hby d4_40) rfl rfl ?_
      refine own_icmp_ne (pt := 49) (pf := 45) X0 hx (hb hby d4_42) rfl (by decide) rfl (fun hc42 => ?_) (fun hc42 => ?_)
      · skip
        refine own_iconst (pc' := 50) X0 hx (0 : Int32) (hb hby d4_49) rfl rfl ?_
        refine own_retN X0 hx hlk (t := .boolean) (by decide) hret (hb hby d4_50) (by decide) (by decide) ?_
        refine ⟨(0 : Int32), rfl, ?_, rfl, e0⟩
        simp [own_bb, own_E, hc13, hc25, hc42]
      · skip
        refine own_iconst (pc' := 46) X0 hx (1 : Int32) (hb hby d4_45) rfl rfl ?_
        refine own_goto (pc' := 50) X0 hx (hb hby d4_46) (by decide) rfl ?_
        refine own_retN X0 hx hlk (t := .boolean) (by decide) hret (hb hby d4_50) (by decide) (by decide) ?_
        refine ⟨(1 : Int32), rfl, ?_, rfl, e0⟩
        simp [own_bb, own_E, hc13, hc25, hc42]
  · skip
    refine own_iconst (pc' := 17) X0 hx (1 : Int32) (hb hby d4_16) rfl rfl ?_
    refine own_retN X0 hx hlk (t := .boolean) (by decide) hret (hb hby d4_17) (by decide) (by decide) ?_
    refine ⟨(1 : Int32), rfl, ?_, rfl, e0⟩
    simp [own_bb, own_E, hc13]
theorem ef_conF5 (m : MethodId) (a1 : Addr) (c1 : Int32) : entryFrame m #[(.ref a1), (.int c1), (.int (5 : Int32))] 3 = mkF m 0 #[.val (.ref a1), .val (.int c1), .val (.int (5 : Int32))] [] := by first | (simp [entryFrame, mkF, argsToLocals, Value.category]; done) | rfl
set_option maxRecDepth 65536 in
set_option maxHeartbeats 4000000 in
theorem conF5 (l : Launch) (Z : State) (a0 : Array Value) (hw : ∀ d ∈ tables_1, d.before a0 Z = true) (a1 : Addr) (c1 : Int32) (h0 : Heap) (kk : ClassId) (bs : List Int32) (V1 : Arv Z h0 a1 kk .byte 8 (bs.map Value.int) (.int 0)) (hl : 0 ≤ c1.toInt) :
    own_Con l Z (⟨"com/example/steerage/steerage/agent/HttpHeadEndPinLaw", "full", "([BII)Z"⟩ : MethodName) method_6_code 3 (some .boolean) ({ frames := 1, cells := 0, slots := 0, locals := 14 } : Room) #[(.ref a1), (.int c1), (.int (5 : Int32))] h0 (fun v h L => ∃ z : Int32, v = some (.int z) ∧ (z = own_bb ((5 < c1.toInt.toNat ∧ own_at bs 5 = 10) ∧ ¬ own_E (own_at bs) 5)) ∧ L = [] ∧ h = h0) := by
  refine own_Con_of pn_2 ?_
  intro p e s m below meth c s₁ X0 hx hby hml hret hlk hnm hown hZ e0
  have hown : s.vm.findClass "com/example/steerage/steerage/agent/HttpHeadEndPinLaw" = some m.cls := hown
  have hml : c.maxLocals = 3 := hml
  show own_WP _ _ _ _ _ _ _ (s₁.setTop (entryFrame m #[(.ref a1), (.int c1), (.int (5 : Int32))] 3))
  rw [ef_conF5 m a1 c1]
  refine own_aloadN (pc' := 1) X0 hx (hb hby d2_0) rfl rfl rfl ?_
  refine own_iloadN (pc' := 2) X0 hx (hb hby d2_1) rfl rfl ?_
  refine own_iloadN (pc' := 3) X0 hx (hb hby d2_2) rfl rfl ?_
  refine own_callS (pc' := 6) (W := 0) (y := (⟨"com/example/steerage/steerage/agent/HttpHeadEndPinLaw", "lf", "([BII)Z"⟩ : MethodName)) X0 hx hZ hown (own_w hw 9 rfl) (own_w hw 10 rfl) (own_w hw 3 rfl) (own_w hw 11 rfl) (by decide) (conLf5 l Z a0 hw a1 c1 _ kk bs V1 hl) e0 pd0 [(.ref a1), (.int c1), (.int (5 : Int32))] [] rfl rfl rfl (Nat.le_of_eq rfl) (by decide) (by decide) (by rw [hml]; rfl) (hb hby d2_3) (by decide) (by decide) rfl ?_
  intro v1 T1 L1 X1 q1
  obtain ⟨r1, rfl, hr1, rfl, e1⟩ := q1
  show own_WP _ _ _ _ _ _ _ (T1.setTop (mkF m 6 #[.val (.ref a1), .val (.int c1), .val (.int (5 : Int32))] [(.int r1)]))
  refine own_if_eq (pt := 21) (pf := 9) X1 hx (hb hby d2_6) rfl (by decide) rfl (fun hc6 => ?_) (fun hc6 => ?_)
  · skip
    refine own_iconst (pc' := 22) X1 hx (0 : Int32) (hb hby d2_21) rfl rfl ?_
    refine own_retN X1 hx hlk (t := .boolean) (by decide) hret (hb hby d2_22) (by decide) (by decide) ?_
    refine ⟨(0 : Int32), rfl, ?_, rfl, e1⟩
    have q1 := own_bb0 hr1 hc6
    rw [own_bb, if_neg (fun q => q1 q.1)]
  · skip
    refine own_aloadN (pc' := 10) X1 hx (hb hby d2_9) rfl rfl rfl ?_
    refine own_iloadN (pc' := 11) X1 hx (hb hby d2_10) rfl rfl ?_
    refine own_callS (pc' := 14) (W := 0) (y := (⟨"com/example/steerage/steerage/agent/HttpHeadEndPinLaw", "emptyAt", "([BI)Z"⟩ : MethodName)) X1 hx hZ hown (own_w hw 12 rfl) (own_w hw 13 rfl) (own_w hw 3 rfl) (own_w hw 14 rfl) (by decide) (conEm5 l Z a0 hw a1 _ kk bs V1) e1 pd1 [(.ref a1), (.int (5 : Int32))] [] rfl rfl rfl (Nat.le_of_eq rfl) (by decide) (by decide) (by rw [hml]; rfl) (hb hby d2_11) (by decide) (by decide) rfl ?_
    intro v2 T2 L2 X2 q2
    obtain ⟨r2, rfl, hr2, rfl, e2⟩ := q2
    show own_WP _ _ _ _ _ _ _ (T2.setTop (mkF m 14 #[.val (.ref a1), .val (.int c1), .val (.int (5 : Int32))] [(.int r2)]))
    refine own_if_ne (pt := 21) (pf := 17) X2 hx (hb hby d2_14) rfl (by decide) rfl (fun hc14 => ?_) (fun hc14 => ?_)
    · skip
      refine own_iconst (pc' := 22) X2 hx (0 : Int32) (hb hby d2_21) rfl rfl ?_
      refine own_retN X2 hx hlk (t := .boolean) (by decide) hret (hb hby d2_22) (by decide) (by decide) ?_
      refine ⟨(0 : Int32), rfl, ?_, rfl, e2⟩
      have q1 := own_bb1 hr1 hc6
      have q2 := own_bb1 hr2 hc14
      rw [own_bb, if_neg (fun q => q.2 q2)]
    · skip
      refine own_iconst (pc' := 18) X2 hx (1 : Int32) (hb hby d2_17) rfl rfl ?_
      refine own_goto (pc' := 22) X2 hx (hb hby d2_18) (by decide) rfl ?_
      refine own_retN X2 hx hlk (t := .boolean) (by decide) hret (hb hby d2_22) (by decide) (by decide) ?_
      refine ⟨(1 : Int32), rfl, ?_, rfl, e2⟩
      have q1 := own_bb1 hr1 hc6
      have q2 := own_bb0 hr2 hc14
      rw [own_bb, if_pos ⟨q1, q2⟩]
theorem ef_conB5 (m : MethodId) (a1 : Addr) (c1 : Int32) : entryFrame m #[(.ref a1), (.int c1), (.int (5 : Int32))] 3 = mkF m 0 #[.val (.ref a1), .val (.int c1), .val (.int (5 : Int32))] [] := by first | (simp [entryFrame, mkF, argsToLocals, Value.category]; done) | rfl
set_option maxRecDepth 65536 in
set_option maxHeartbeats 4000000 in
theorem conB5 (l : Launch) (Z : State) (a0 : Array Value) (hw : ∀ d ∈ tables_1, d.before a0 Z = true) (a1 : Addr) (c1 : Int32) (h0 : Heap) (kk : ClassId) (bs : List Int32) (V1 : Arv Z h0 a1 kk .byte 8 (bs.map Value.int) (.int 0)) (hl : 0 ≤ c1.toInt) :
    own_Con l Z (⟨"com/example/steerage/steerage/agent/HttpHeadEndPinLaw", "blank", "([BII)Z"⟩ : MethodName) method_5_code 3 (some .boolean) ({ frames := 1, cells := 0, slots := 0, locals := 14 } : Room) #[(.ref a1), (.int c1), (.int (5 : Int32))] h0 (fun v h L => ∃ z : Int32, v = some (.int z) ∧ (z = own_bb ((5 < c1.toInt.toNat ∧ own_at bs 5 = 10) ∧ own_E (own_at bs) 5)) ∧ L = [] ∧ h = h0) := by
  refine own_Con_of pn_7 ?_
  intro p e s m below meth c s₁ X0 hx hby hml hret hlk hnm hown hZ e0
  have hown : s.vm.findClass "com/example/steerage/steerage/agent/HttpHeadEndPinLaw" = some m.cls := hown
  have hml : c.maxLocals = 3 := hml
  show own_WP _ _ _ _ _ _ _ (s₁.setTop (entryFrame m #[(.ref a1), (.int c1), (.int (5 : Int32))] 3))
  rw [ef_conB5 m a1 c1]
  refine own_aloadN (pc' := 1) X0 hx (hb hby d7_0) rfl rfl rfl ?_
  refine own_iloadN (pc' := 2) X0 hx (hb hby d7_1) rfl rfl ?_
  refine own_iloadN (pc' := 3) X0 hx (hb hby d7_2) rfl rfl ?_
  refine own_callS (pc' := 6) (W := 0) (y := (⟨"com/example/steerage/steerage/agent/HttpHeadEndPinLaw", "lf", "([BII)Z"⟩ : MethodName)) X0 hx hZ hown (own_w hw 9 rfl) (own_w hw 10 rfl) (own_w hw 3 rfl) (own_w hw 11 rfl) (by decide) (conLf5 l Z a0 hw a1 c1 _ kk bs V1 hl) e0 pd0 [(.ref a1), (.int c1), (.int (5 : Int32))] [] rfl rfl rfl (Nat.le_of_eq rfl) (by decide) (by decide) (by rw [hml]; rfl) (hb hby d7_3) (by decide) (by decide) rfl ?_
  intro v1 T1 L1 X1 q1
  obtain ⟨r1, rfl, hr1, rfl, e1⟩ := q1
  show own_WP _ _ _ _ _ _ _ (T1.setTop (mkF m 6 #[.val (.ref a1), .val (.int c1), .val (.int (5 : Int32))] [(.int r1)]))
  refine own_if_eq (pt := 21) (pf := 9) X1 hx (hb hby d7_6) rfl (by decide) rfl (fun hc6 => ?_) (fun hc6 => ?_)
  · skip
    refine own_iconst (pc' := 22) X1 hx (0 : Int32) (hb hby d7_21) rfl rfl ?_
    refine own_retN X1 hx hlk (t := .boolean) (by decide) hret (hb hby d7_22) (by decide) (by decide) ?_
    refine ⟨(0 : Int32), rfl, ?_, rfl, e1⟩
    have q1 := own_bb0 hr1 hc6
    rw [own_bb, if_neg (fun q => q1 q.1)]
  · skip
    refine own_aloadN (pc' := 10) X1 hx (hb hby d7_9) rfl rfl rfl ?_
    refine own_iloadN (pc' := 11) X1 hx (hb hby d7_10) rfl rfl ?_
    refine own_callS (pc' := 14) (W := 0) (y := (⟨"com/example/steerage/steerage/agent/HttpHeadEndPinLaw", "emptyAt", "([BI)Z"⟩ : MethodName)) X1 hx hZ hown (own_w hw 12 rfl) (own_w hw 13 rfl) (own_w hw 3 rfl) (own_w hw 14 rfl) (by decide) (conEm5 l Z a0 hw a1 _ kk bs V1) e1 pd1 [(.ref a1), (.int (5 : Int32))] [] rfl rfl rfl (Nat.le_of_eq rfl) (by decide) (by decide) (by rw [hml]; rfl) (hb hby d7_11) (by decide) (by decide) rfl ?_
    intro v2 T2 L2 X2 q2
    obtain ⟨r2, rfl, hr2, rfl, e2⟩ := q2
    show own_WP _ _ _ _ _ _ _ (T2.setTop (mkF m 14 #[.val (.ref a1), .val (.int c1), .val (.int (5 : Int32))] [(.int r2)]))
    refine own_if_eq (pt := 21) (pf := 17) X2 hx (hb hby d7_14) rfl (by decide) rfl (fun hc14 => ?_) (fun hc14 => ?_)
    · skip
      refine own_iconst (pc' := 22) X2 hx (0 : Int32) (hb hby d7_21) rfl rfl ?_
      refine own_retN X2 hx hlk (t := .boolean) (by decide) hret (hb hby d7_22) (by decide) (by decide) ?_
      refine ⟨(0 : Int32), rfl, ?_, rfl, e2⟩
      have q1 := own_bb1 hr1 hc6
      have q2 := own_bb0 hr2 hc14
      rw [own_bb, if_neg (fun q => q2 q.2)]
    · skip
      refine own_iconst (pc' := 18) X2 hx (1 : Int32) (hb hby d7_17) rfl rfl ?_
      refine own_goto (pc' := 22) X2 hx (hb hby d7_18) (by decide) rfl ?_
      refine own_retN X2 hx hlk (t := .boolean) (by decide) hret (hb hby d7_22) (by decide) (by decide) ?_
      refine ⟨(1 : Int32), rfl, ?_, rfl, e2⟩
      have q1 := own_bb1 hr1 hc6
      have q2 := own_bb1 hr2 hc14
      rw [own_bb, if_pos ⟨q1, q2⟩]
theorem ef_conLf6 (m : MethodId) (a1 : Addr) (c1 : Int32) : entryFrame m #[(.ref a1), (.int c1), (.int (6 : Int32))] 3 = mkF m 0 #[.val (.ref a1), .val (.int c1), .val (.int (6 : Int32))] [] := by first | (simp [entryFrame, mkF, argsToLocals, Value.category]; done) | rfl
set_option maxRecDepth 65536 in
set_option maxHeartbeats 4000000 in
theorem conLf6 (l : Launch) (Z : State) (a0 : Array Value) (hw : ∀ d ∈ tables_1, d.before a0 Z = true) (a1 : Addr) (c1 : Int32) (h0 : Heap) (kk : ClassId) (bs : List Int32) (V1 : Arv Z h0 a1 kk .byte 8 (bs.map Value.int) (.int 0)) (hl : 0 ≤ c1.toInt) :
    own_Con l Z (⟨"com/example/steerage/steerage/agent/HttpHeadEndPinLaw", "lf", "([BII)Z"⟩ : MethodName) method_3_code 3 (some .boolean) ({ frames := 0, cells := 0, slots := 0, locals := 0 } : Room) #[(.ref a1), (.int c1), (.int (6 : Int32))] h0 (fun v h L => ∃ z : Int32, v = some (.int z) ∧ (z = own_bb (6 < c1.toInt.toNat ∧ own_at bs 6 = 10)) ∧ L = [] ∧ h = h0) := by
  refine own_Con_of pn_3 ?_
  intro p e s m below meth c s₁ X0 hx hby hml hret hlk hnm hown hZ e0
  have hown : s.vm.findClass "com/example/steerage/steerage/agent/HttpHeadEndPinLaw" = some m.cls := hown
  have hml : c.maxLocals = 3 := hml
  show own_WP _ _ _ _ _ _ _ (s₁.setTop (entryFrame m #[(.ref a1), (.int c1), (.int (6 : Int32))] 3))
  rw [ef_conLf6 m a1 c1]
  refine own_iloadN (pc' := 1) X0 hx (hb hby d3_0) rfl rfl ?_
  refine own_iloadN (pc' := 2) X0 hx (hb hby d3_1) rfl rfl ?_
  refine own_icmp_ge (pt := 17) (pf := 5) X0 hx (hb hby d3_2) rfl (by decide) rfl (fun hc2 => ?_) (fun hc2 => ?_)
  · skip
    refine own_iconst (pc' := 18) X0 hx (0 : Int32) (hb hby d3_17) rfl rfl ?_
    refine own_retN X0 hx hlk (t := .boolean) (by decide) hret (hb hby d3_18) (by decide) (by decide) ?_
    refine ⟨(0 : Int32), rfl, ?_, rfl, e0⟩
    have q := own_lit (i := 6) (v := 6) hl (by decide)
    rw [own_bb, if_neg (fun z => hc2 (q.mpr z.1))]
  · skip
    refine own_aloadN (pc' := 6) X0 hx (hb hby d3_5) rfl rfl rfl ?_
    refine own_iloadN (pc' := 7) X0 hx (hb hby d3_6) rfl rfl ?_
    refine own_baload (pc' := 8) (v := (.int (own_at bs 6))) X0 hx hZ e0 V1 ⟨by decide, by decide⟩ (own_getm bs 6) (hb hby d3_7) rfl ?_
    refine own_bipush (pc' := 10) X0 hx (10 : Int32) (hb hby d3_8) rfl rfl ?_
    refine own_icmp_ne (pt := 17) (pf := 13) X0 hx (hb hby d3_10) rfl (by decide) rfl (fun hc10 => ?_) (fun hc10 => ?_)
    · skip
      refine own_iconst (pc' := 18) X0 hx (0 : Int32) (hb hby d3_17) rfl rfl ?_
      refine own_retN X0 hx hlk (t := .boolean) (by decide) hret (hb hby d3_18) (by decide) (by decide) ?_
      refine ⟨(0 : Int32), rfl, ?_, rfl, e0⟩
      have q := own_lit (i := 6) (v := 6) hl (by decide)
      rw [own_bb, if_neg (fun z => hc10 z.2)]
    · skip
      refine own_iconst (pc' := 14) X0 hx (1 : Int32) (hb hby d3_13) rfl rfl ?_
      refine own_goto (pc' := 18) X0 hx (hb hby d3_14) (by decide) rfl ?_
      refine own_retN X0 hx hlk (t := .boolean) (by decide) hret (hb hby d3_18) (by decide) (by decide) ?_
      refine ⟨(1 : Int32), rfl, ?_, rfl, e0⟩
      have q := own_lit (i := 6) (v := 6) hl (by decide)
      rw [own_bb, if_pos ⟨q.mp hc2, hc10⟩]
theorem ef_conEm6 (m : MethodId) (a1 : Addr) : entryFrame m #[(.ref a1), (.int (6 : Int32))] 2 = mkF m 0 #[.val (.ref a1), .val (.int (6 : Int32))] [] := by first | (simp [entryFrame, mkF, argsToLocals, Value.category]; done) | rfl
set_option maxRecDepth 65536 in
set_option maxHeartbeats 4000000 in
theorem conEm6 (l : Launch) (Z : State) (a0 : Array Value) (hw : ∀ d ∈ tables_1, d.before a0 Z = true) (a1 : Addr) (h0 : Heap) (kk : ClassId) (bs : List Int32) (V1 : Arv Z h0 a1 kk .byte 8 (bs.map Value.int) (.int 0)) :
    own_Con l Z (⟨"com/example/steerage/steerage/agent/HttpHeadEndPinLaw", "emptyAt", "([BI)Z"⟩ : MethodName) method_4_code 2 (some .boolean) ({ frames := 0, cells := 0, slots := 0, locals := 0 } : Room) #[(.ref a1), (.int (6 : Int32))] h0 (fun v h L => ∃ z : Int32, v = some (.int z) ∧ (z = own_bb (own_E (own_at bs) 6)) ∧ L = [] ∧ h = h0) := by
  refine own_Con_of pn_4 ?_
  intro p e s m below meth c s₁ X0 hx hby hml hret hlk hnm hown hZ e0
  have hown : s.vm.findClass "com/example/steerage/steerage/agent/HttpHeadEndPinLaw" = some m.cls := hown
  have hml : c.maxLocals = 2 := hml
  show own_WP _ _ _ _ _ _ _ (s₁.setTop (entryFrame m #[(.ref a1), (.int (6 : Int32))] 2))
  rw [ef_conEm6 m a1]
  refine own_iloadN (pc' := 1) X0 hx (hb hby d4_0) rfl rfl ?_
  refine own_if_ne (pt := 6) (pf := 4) X0 hx (hb hby d4_1) rfl (by decide) rfl (fun hc1 => ?_) (fun hc1 => absurd hc1 (by decide))
  refine own_aloadN (pc' := 7) X0 hx (hb hby d4_6) rfl rfl rfl ?_
  refine own_iloadN (pc' := 8) X0 hx (hb hby d4_7) rfl rfl ?_
  refine own_iconst (pc' := 9) X0 hx (1 : Int32) (hb hby d4_8) rfl rfl ?_
  refine own_isub (pc' := 10) X0 hx (hb hby d4_9) rfl ?_
  show own_WP _ _ _ _ _ _ _ (s₁.setTop (mkF m 10 #[.val (.ref a1), .val (.int (6 : Int32))] [(.int (5 : Int32)), (.ref a1)]))
  refine own_baload (pc' := 11) (v := (.int (own_at bs 5))) X0 hx hZ e0 V1 ⟨by decide, by decide⟩ (own_getm bs 5) (hb hby d4_10) rfl ?_
  refine own_bipush (pc' := 13) X0 hx (10 : Int32) (hb hby d4_11) rfl rfl ?_
  refine own_icmp_ne (pt := 18) (pf := 16) X0 hx (hb hby d4_13) rfl (by decide) rfl (fun hc13 => ?_) (fun hc13 => ?_)
  · skip
    refine own_aloadN (pc' := 19) X0 hx (hb hby d4_18) rfl rfl rfl ?_
    refine own_iloadN (pc' := 20) X0 hx (hb hby d4_19) rfl rfl ?_
    refine own_iconst (pc' := 21) X0 hx (1 : Int32) (hb hby d4_20) rfl rfl ?_
    refine own_isub (pc' := 22) X0 hx (hb hby d4_21) rfl ?_
    show own_WP _ _ _ _ _ _ _ (s₁.setTop (mkF m 22 #[.val (.ref a1), .val (.int (6 : Int32))] [(.int (5 : Int32)), (.ref a1)]))
    refine own_baload (pc' := 23) (v := (.int (own_at bs 5))) X0 hx hZ e0 V1 ⟨by decide, by decide⟩ (own_getm bs 5) (hb hby d4_22) rfl ?_
    refine own_bipush (pc' := 25) X0 hx (13 : Int32) (hb hby d4_23) rfl rfl ?_
    refine own_icmp_ne (pt := 51) (pf := 28) X0 hx (hb hby d4_25) rfl (by decide) rfl (fun hc25 => ?_) (fun hc25 => ?_)
    · skip
      refine own_iconst (pc' := 52) X0 hx (0 : Int32) (hb hby d4_51) rfl rfl ?_
      refine own_retN X0 hx hlk (t := .boolean) (by decide) hret (hb hby d4_52) (by decide) (by decide) ?_
      refine ⟨(0 : Int32), rfl, ?_, rfl, e0⟩
      simp [own_bb, own_E, hc13, hc25]
    · skip
      refine own_iloadN (pc' := 29) X0 hx (hb hby d4_28) rfl rfl ?_
      refine own_iconst (pc' := 30) X0 hx (1 : Int32) (hb hby d4_29) rfl rfl ?_
      refine own_icmp_ne (pt := 35) (pf := 33) X0 hx (hb hby d4_30) rfl (by decide) rfl (fun hc30 => ?_) (fun hc30 => absurd hc30 (by decide))
      refine own_aloadN (pc' := 36) X0 hx (hb hby d4_35) rfl rfl rfl ?_
      refine own_iloadN (pc' := 37) X0 hx (hb hby d4_36) rfl rfl ?_
      refine own_iconst (pc' := 38) X0 hx (2 : Int32) (hb hby d4_37) rfl rfl ?_
      refine own_isub (pc' := 39) X0 hx (hb hby d4_38) rfl ?_
      show own_WP _ _ _ _ _ _ _ (s₁.setTop (mkF m 39 #[.val (.ref a1), .val (.int (6 : Int32))] [(.int (4 : Int32)), (.ref a1)]))
      refine own_baload (pc' := 40) (v := (.int (own_at bs 4))) X0 hx hZ e0 V1 ⟨by decide, by decide⟩ (own_getm bs 4) (hb hby d4_39) rfl ?_
      refine own_bipush (pc' := 42) X0 hx (10 : Int32) (hb hby d4_40) rfl rfl ?_
      refine own_icmp_ne (pt := 49) (pf := 45) X0 hx (hb hby d4_42) rfl (by decide) rfl (fun hc42 => ?_) (fun hc42 => ?_)
      · skip
        refine own_iconst (pc' := 50) X0 hx (0 : Int32) (hb hby d4_49) rfl rfl ?_
        refine own_retN X0 hx hlk (t := .boolean) (by decide) hret (hb hby d4_50) (by decide) (by decide) ?_
        refine ⟨(0 : Int32), rfl, ?_, rfl, e0⟩
        simp [own_bb, own_E, hc13, hc25, hc42]
      · skip
        refine own_iconst (pc' := 46) X0 hx (1 : Int32) (hb hby d4_45) rfl rfl ?_
        refine own_goto (pc' := 50) X0 hx (hb hby d4_46) (by decide) rfl ?_
        refine own_retN X0 hx hlk (t := .boolean) (by decide) hret (hb hby d4_50) (by decide) (by decide) ?_
        refine ⟨(1 : Int32), rfl, ?_, rfl, e0⟩
        simp [own_bb, own_E, hc13, hc25, hc42]
  · skip
    refine own_iconst (pc' := 17) X0 hx (1 : Int32) (hb hby d4_16) rfl rfl ?_
    refine own_retN X0 hx hlk (t := .boolean) (by decide) hret (hb hby d4_17) (by decide) (by decide) ?_
    refine ⟨(1 : Int32), rfl, ?_, rfl, e0⟩
    simp [own_bb, own_E, hc13]
theorem ef_conF6 (m : MethodId) (a1 : Addr) (c1 : Int32) : entryFrame m #[(.ref a1), (.int c1), (.int (6 : Int32))] 3 = mkF m 0 #[.val (.ref a1), .val (.int c1), .val (.int (6 : Int32))] [] := by first | (simp [entryFrame, mkF, argsToLocals, Value.category]; done) | rfl
set_option maxRecDepth 65536 in
set_option maxHeartbeats 4000000 in
theorem conF6 (l : Launch) (Z : State) (a0 : Array Value) (hw : ∀ d ∈ tables_1, d.before a0 Z = true) (a1 : Addr) (c1 : Int32) (h0 : Heap) (kk : ClassId) (bs : List Int32) (V1 : Arv Z h0 a1 kk .byte 8 (bs.map Value.int) (.int 0)) (hl : 0 ≤ c1.toInt) :
    own_Con l Z (⟨"com/example/steerage/steerage/agent/HttpHeadEndPinLaw", "full", "([BII)Z"⟩ : MethodName) method_6_code 3 (some .boolean) ({ frames := 1, cells := 0, slots := 0, locals := 14 } : Room) #[(.ref a1), (.int c1), (.int (6 : Int32))] h0 (fun v h L => ∃ z : Int32, v = some (.int z) ∧ (z = own_bb ((6 < c1.toInt.toNat ∧ own_at bs 6 = 10) ∧ ¬ own_E (own_at bs) 6)) ∧ L = [] ∧ h = h0) := by
  refine own_Con_of pn_2 ?_
  intro p e s m below meth c s₁ X0 hx hby hml hret hlk hnm hown hZ e0
  have hown : s.vm.findClass "com/example/steerage/steerage/agent/HttpHeadEndPinLaw" = some m.cls := hown
  have hml : c.maxLocals = 3 := hml
  show own_WP _ _ _ _ _ _ _ (s₁.setTop (entryFrame m #[(.ref a1), (.int c1), (.int (6 : Int32))] 3))
  rw [ef_conF6 m a1 c1]
  refine own_aloadN (pc' := 1) X0 hx (hb hby d2_0) rfl rfl rfl ?_
  refine own_iloadN (pc' := 2) X0 hx (hb hby d2_1) rfl rfl ?_
  refine own_iloadN (pc' := 3) X0 hx (hb hby d2_2) rfl rfl ?_
  refine own_callS (pc' := 6) (W := 0) (y := (⟨"com/example/steerage/steerage/agent/HttpHeadEndPinLaw", "lf", "([BII)Z"⟩ : MethodName)) X0 hx hZ hown (own_w hw 9 rfl) (own_w hw 10 rfl) (own_w hw 3 rfl) (own_w hw 11 rfl) (by decide) (conLf6 l Z a0 hw a1 c1 _ kk bs V1 hl) e0 pd0 [(.ref a1), (.int c1), (.int (6 : Int32))] [] rfl rfl rfl (Nat.le_of_eq rfl) (by decide) (by decide) (by rw [hml]; rfl) (hb hby d2_3) (by decide) (by decide) rfl ?_
  intro v1 T1 L1 X1 q1
  obtain ⟨r1, rfl, hr1, rfl, e1⟩ := q1
  show own_WP _ _ _ _ _ _ _ (T1.setTop (mkF m 6 #[.val (.ref a1), .val (.int c1), .val (.int (6 : Int32))] [(.int r1)]))
  refine own_if_eq (pt := 21) (pf := 9) X1 hx (hb hby d2_6) rfl (by decide) rfl (fun hc6 => ?_) (fun hc6 => ?_)
  · skip
    refine own_iconst (pc' := 22) X1 hx (0 : Int32) (hb hby d2_21) rfl rfl ?_
    refine own_retN X1 hx hlk (t := .boolean) (by decide) hret (hb hby d2_22) (by decide) (by decide) ?_
    refine ⟨(0 : Int32), rfl, ?_, rfl, e1⟩
    have q1 := own_bb0 hr1 hc6
    rw [own_bb, if_neg (fun q => q1 q.1)]
  · skip
    refine own_aloadN (pc' := 10) X1 hx (hb hby d2_9) rfl rfl rfl ?_
    refine own_iloadN (pc' := 11) X1 hx (hb hby d2_10) rfl rfl ?_
    refine own_callS (pc' := 14) (W := 0) (y := (⟨"com/example/steerage/steerage/agent/HttpHeadEndPinLaw", "emptyAt", "([BI)Z"⟩ : MethodName)) X1 hx hZ hown (own_w hw 12 rfl) (own_w hw 13 rfl) (own_w hw 3 rfl) (own_w hw 14 rfl) (by decide) (conEm6 l Z a0 hw a1 _ kk bs V1) e1 pd1 [(.ref a1), (.int (6 : Int32))] [] rfl rfl rfl (Nat.le_of_eq rfl) (by decide) (by decide) (by rw [hml]; rfl) (hb hby d2_11) (by decide) (by decide) rfl ?_
    intro v2 T2 L2 X2 q2
    obtain ⟨r2, rfl, hr2, rfl, e2⟩ := q2
    show own_WP _ _ _ _ _ _ _ (T2.setTop (mkF m 14 #[.val (.ref a1), .val (.int c1), .val (.int (6 : Int32))] [(.int r2)]))
    refine own_if_ne (pt := 21) (pf := 17) X2 hx (hb hby d2_14) rfl (by decide) rfl (fun hc14 => ?_) (fun hc14 => ?_)
    · skip
      refine own_iconst (pc' := 22) X2 hx (0 : Int32) (hb hby d2_21) rfl rfl ?_
      refine own_retN X2 hx hlk (t := .boolean) (by decide) hret (hb hby d2_22) (by decide) (by decide) ?_
      refine ⟨(0 : Int32), rfl, ?_, rfl, e2⟩
      have q1 := own_bb1 hr1 hc6
      have q2 := own_bb1 hr2 hc14
      rw [own_bb, if_neg (fun q => q.2 q2)]
    · skip
      refine own_iconst (pc' := 18) X2 hx (1 : Int32) (hb hby d2_17) rfl rfl ?_
      refine own_goto (pc' := 22) X2 hx (hb hby d2_18) (by decide) rfl ?_
      refine own_retN X2 hx hlk (t := .boolean) (by decide) hret (hb hby d2_22) (by decide) (by decide) ?_
      refine ⟨(1 : Int32), rfl, ?_, rfl, e2⟩
      have q1 := own_bb1 hr1 hc6
      have q2 := own_bb0 hr2 hc14
      rw [own_bb, if_pos ⟨q1, q2⟩]
theorem ef_conB6 (m : MethodId) (a1 : Addr) (c1 : Int32) : entryFrame m #[(.ref a1), (.int c1), (.int (6 : Int32))] 3 = mkF m 0 #[.val (.ref a1), .val (.int c1), .val (.int (6 : Int32))] [] := by first | (simp [entryFrame, mkF, argsToLocals, Value.category]; done) | rfl
set_option maxRecDepth 65536 in
set_option maxHeartbeats 4000000 in
theorem conB6 (l : Launch) (Z : State) (a0 : Array Value) (hw : ∀ d ∈ tables_1, d.before a0 Z = true) (a1 : Addr) (c1 : Int32) (h0 : Heap) (kk : ClassId) (bs : List Int32) (V1 : Arv Z h0 a1 kk .byte 8 (bs.map Value.int) (.int 0)) (hl : 0 ≤ c1.toInt) :
    own_Con l Z (⟨"com/example/steerage/steerage/agent/HttpHeadEndPinLaw", "blank", "([BII)Z"⟩ : MethodName) method_5_code 3 (some .boolean) ({ frames := 1, cells := 0, slots := 0, locals := 14 } : Room) #[(.ref a1), (.int c1), (.int (6 : Int32))] h0 (fun v h L => ∃ z : Int32, v = some (.int z) ∧ (z = own_bb ((6 < c1.toInt.toNat ∧ own_at bs 6 = 10) ∧ own_E (own_at bs) 6)) ∧ L = [] ∧ h = h0) := by
  refine own_Con_of pn_7 ?_
  intro p e s m below meth c s₁ X0 hx hby hml hret hlk hnm hown hZ e0
  have hown : s.vm.findClass "com/example/steerage/steerage/agent/HttpHeadEndPinLaw" = some m.cls := hown
  have hml : c.maxLocals = 3 := hml
  show own_WP _ _ _ _ _ _ _ (s₁.setTop (entryFrame m #[(.ref a1), (.int c1), (.int (6 : Int32))] 3))
  rw [ef_conB6 m a1 c1]
  refine own_aloadN (pc' := 1) X0 hx (hb hby d7_0) rfl rfl rfl ?_
  refine own_iloadN (pc' := 2) X0 hx (hb hby d7_1) rfl rfl ?_
  refine own_iloadN (pc' := 3) X0 hx (hb hby d7_2) rfl rfl ?_
  refine own_callS (pc' := 6) (W := 0) (y := (⟨"com/example/steerage/steerage/agent/HttpHeadEndPinLaw", "lf", "([BII)Z"⟩ : MethodName)) X0 hx hZ hown (own_w hw 9 rfl) (own_w hw 10 rfl) (own_w hw 3 rfl) (own_w hw 11 rfl) (by decide) (conLf6 l Z a0 hw a1 c1 _ kk bs V1 hl) e0 pd0 [(.ref a1), (.int c1), (.int (6 : Int32))] [] rfl rfl rfl (Nat.le_of_eq rfl) (by decide) (by decide) (by rw [hml]; rfl) (hb hby d7_3) (by decide) (by decide) rfl ?_
  intro v1 T1 L1 X1 q1
  obtain ⟨r1, rfl, hr1, rfl, e1⟩ := q1
  show own_WP _ _ _ _ _ _ _ (T1.setTop (mkF m 6 #[.val (.ref a1), .val (.int c1), .val (.int (6 : Int32))] [(.int r1)]))
  refine own_if_eq (pt := 21) (pf := 9) X1 hx (hb hby d7_6) rfl (by decide) rfl (fun hc6 => ?_) (fun hc6 => ?_)
  · skip
    refine own_iconst (pc' := 22) X1 hx (0 : Int32) (hb hby d7_21) rfl rfl ?_
    refine own_retN X1 hx hlk (t := .boolean) (by decide) hret (hb hby d7_22) (by decide) (by decide) ?_
    refine ⟨(0 : Int32), rfl, ?_, rfl, e1⟩
    have q1 := own_bb0 hr1 hc6
    rw [own_bb, if_neg (fun q => q1 q.1)]
  · skip
    refine own_aloadN (pc' := 10) X1 hx (hb hby d7_9) rfl rfl rfl ?_
    refine own_iloadN (pc' := 11) X1 hx (hb hby d7_10) rfl rfl ?_
    refine own_callS (pc' := 14) (W := 0) (y := (⟨"com/example/steerage/steerage/agent/HttpHeadEndPinLaw", "emptyAt", "([BI)Z"⟩ : MethodName)) X1 hx hZ hown (own_w hw 12 rfl) (own_w hw 13 rfl) (own_w hw 3 rfl) (own_w hw 14 rfl) (by decide) (conEm6 l Z a0 hw a1 _ kk bs V1) e1 pd1 [(.ref a1), (.int (6 : Int32))] [] rfl rfl rfl (Nat.le_of_eq rfl) (by decide) (by decide) (by rw [hml]; rfl) (hb hby d7_11) (by decide) (by decide) rfl ?_
    intro v2 T2 L2 X2 q2
    obtain ⟨r2, rfl, hr2, rfl, e2⟩ := q2
    show own_WP _ _ _ _ _ _ _ (T2.setTop (mkF m 14 #[.val (.ref a1), .val (.int c1), .val (.int (6 : Int32))] [(.int r2)]))
    refine own_if_eq (pt := 21) (pf := 17) X2 hx (hb hby d7_14) rfl (by decide) rfl (fun hc14 => ?_) (fun hc14 => ?_)
    · skip
      refine own_iconst (pc' := 22) X2 hx (0 : Int32) (hb hby d7_21) rfl rfl ?_
      refine own_retN X2 hx hlk (t := .boolean) (by decide) hret (hb hby d7_22) (by decide) (by decide) ?_
      refine ⟨(0 : Int32), rfl, ?_, rfl, e2⟩
      have q1 := own_bb1 hr1 hc6
      have q2 := own_bb0 hr2 hc14
      rw [own_bb, if_neg (fun q => q2 q.2)]
    · skip
      refine own_iconst (pc' := 18) X2 hx (1 : Int32) (hb hby d7_17) rfl rfl ?_
      refine own_goto (pc' := 22) X2 hx (hb hby d7_18) (by decide) rfl ?_
      refine own_retN X2 hx hlk (t := .boolean) (by decide) hret (hb hby d7_22) (by decide) (by decide) ?_
      refine ⟨(1 : Int32), rfl, ?_, rfl, e2⟩
      have q1 := own_bb1 hr1 hc6
      have q2 := own_bb1 hr2 hc14
      rw [own_bb, if_pos ⟨q1, q2⟩]
theorem ef_conLf7 (m : MethodId) (a1 : Addr) (c1 : Int32) : entryFrame m #[(.ref a1), (.int c1), (.int (7 : Int32))] 3 = mkF m 0 #[.val (.ref a1), .val (.int c1), .val (.int (7 : Int32))] [] := by first | (simp [entryFrame, mkF, argsToLocals, Value.category]; done) | rfl
set_option maxRecDepth 65536 in
set_option maxHeartbeats 4000000 in
theorem conLf7 (l : Launch) (Z : State) (a0 : Array Value) (hw : ∀ d ∈ tables_1, d.before a0 Z = true) (a1 : Addr) (c1 : Int32) (h0 : Heap) (kk : ClassId) (bs : List Int32) (V1 : Arv Z h0 a1 kk .byte 8 (bs.map Value.int) (.int 0)) (hl : 0 ≤ c1.toInt) :
    own_Con l Z (⟨"com/example/steerage/steerage/agent/HttpHeadEndPinLaw", "lf", "([BII)Z"⟩ : MethodName) method_3_code 3 (some .boolean) ({ frames := 0, cells := 0, slots := 0, locals := 0 } : Room) #[(.ref a1), (.int c1), (.int (7 : Int32))] h0 (fun v h L => ∃ z : Int32, v = some (.int z) ∧ (z = own_bb (7 < c1.toInt.toNat ∧ own_at bs 7 = 10)) ∧ L = [] ∧ h = h0) := by
  refine own_Con_of pn_3 ?_
  intro p e s m below meth c s₁ X0 hx hby hml hret hlk hnm hown hZ e0
  have hown : s.vm.findClass "com/example/steerage/steerage/agent/HttpHeadEndPinLaw" = some m.cls := hown
  have hml : c.maxLocals = 3 := hml
  show own_WP _ _ _ _ _ _ _ (s₁.setTop (entryFrame m #[(.ref a1), (.int c1), (.int (7 : Int32))] 3))
  rw [ef_conLf7 m a1 c1]
  refine own_iloadN (pc' := 1) X0 hx (hb hby d3_0) rfl rfl ?_
  refine own_iloadN (pc' := 2) X0 hx (hb hby d3_1) rfl rfl ?_
  refine own_icmp_ge (pt := 17) (pf := 5) X0 hx (hb hby d3_2) rfl (by decide) rfl (fun hc2 => ?_) (fun hc2 => ?_)
  · skip
    refine own_iconst (pc' := 18) X0 hx (0 : Int32) (hb hby d3_17) rfl rfl ?_
    refine own_retN X0 hx hlk (t := .boolean) (by decide) hret (hb hby d3_18) (by decide) (by decide) ?_
    refine ⟨(0 : Int32), rfl, ?_, rfl, e0⟩
    have q := own_lit (i := 7) (v := 7) hl (by decide)
    rw [own_bb, if_neg (fun z => hc2 (q.mpr z.1))]
  · skip
    refine own_aloadN (pc' := 6) X0 hx (hb hby d3_5) rfl rfl rfl ?_
    refine own_iloadN (pc' := 7) X0 hx (hb hby d3_6) rfl rfl ?_
    refine own_baload (pc' := 8) (v := (.int (own_at bs 7))) X0 hx hZ e0 V1 ⟨by decide, by decide⟩ (own_getm bs 7) (hb hby d3_7) rfl ?_
    refine own_bipush (pc' := 10) X0 hx (10 : Int32) (hb hby d3_8) rfl rfl ?_
    refine own_icmp_ne (pt := 17) (pf := 13) X0 hx (hb hby d3_10) rfl (by decide) rfl (fun hc10 => ?_) (fun hc10 => ?_)
    · skip
      refine own_iconst (pc' := 18) X0 hx (0 : Int32) (hb hby d3_17) rfl rfl ?_
      refine own_retN X0 hx hlk (t := .boolean) (by decide) hret (hb hby d3_18) (by decide) (by decide) ?_
      refine ⟨(0 : Int32), rfl, ?_, rfl, e0⟩
      have q := own_lit (i := 7) (v := 7) hl (by decide)
      rw [own_bb, if_neg (fun z => hc10 z.2)]
    · skip
      refine own_iconst (pc' := 14) X0 hx (1 : Int32) (hb hby d3_13) rfl rfl ?_
      refine own_goto (pc' := 18) X0 hx (hb hby d3_14) (by decide) rfl ?_
      refine own_retN X0 hx hlk (t := .boolean) (by decide) hret (hb hby d3_18) (by decide) (by decide) ?_
      refine ⟨(1 : Int32), rfl, ?_, rfl, e0⟩
      have q := own_lit (i := 7) (v := 7) hl (by decide)
      rw [own_bb, if_pos ⟨q.mp hc2, hc10⟩]
theorem ef_conEm7 (m : MethodId) (a1 : Addr) : entryFrame m #[(.ref a1), (.int (7 : Int32))] 2 = mkF m 0 #[.val (.ref a1), .val (.int (7 : Int32))] [] := by first | (simp [entryFrame, mkF, argsToLocals, Value.category]; done) | rfl
set_option maxRecDepth 65536 in
set_option maxHeartbeats 4000000 in
theorem conEm7 (l : Launch) (Z : State) (a0 : Array Value) (hw : ∀ d ∈ tables_1, d.before a0 Z = true) (a1 : Addr) (h0 : Heap) (kk : ClassId) (bs : List Int32) (V1 : Arv Z h0 a1 kk .byte 8 (bs.map Value.int) (.int 0)) :
    own_Con l Z (⟨"com/example/steerage/steerage/agent/HttpHeadEndPinLaw", "emptyAt", "([BI)Z"⟩ : MethodName) method_4_code 2 (some .boolean) ({ frames := 0, cells := 0, slots := 0, locals := 0 } : Room) #[(.ref a1), (.int (7 : Int32))] h0 (fun v h L => ∃ z : Int32, v = some (.int z) ∧ (z = own_bb (own_E (own_at bs) 7)) ∧ L = [] ∧ h = h0) := by
  refine own_Con_of pn_4 ?_
  intro p e s m below meth c s₁ X0 hx hby hml hret hlk hnm hown hZ e0
  have hown : s.vm.findClass "com/example/steerage/steerage/agent/HttpHeadEndPinLaw" = some m.cls := hown
  have hml : c.maxLocals = 2 := hml
  show own_WP _ _ _ _ _ _ _ (s₁.setTop (entryFrame m #[(.ref a1), (.int (7 : Int32))] 2))
  rw [ef_conEm7 m a1]
  refine own_iloadN (pc' := 1) X0 hx (hb hby d4_0) rfl rfl ?_
  refine own_if_ne (pt := 6) (pf := 4) X0 hx (hb hby d4_1) rfl (by decide) rfl (fun hc1 => ?_) (fun hc1 => absurd hc1 (by decide))
  refine own_aloadN (pc' := 7) X0 hx (hb hby d4_6) rfl rfl rfl ?_
  refine own_iloadN (pc' := 8) X0 hx (hb hby d4_7) rfl rfl ?_
  refine own_iconst (pc' := 9) X0 hx (1 : Int32) (hb hby d4_8) rfl rfl ?_
  refine own_isub (pc' := 10) X0 hx (hb hby d4_9) rfl ?_
  show own_WP _ _ _ _ _ _ _ (s₁.setTop (mkF m 10 #[.val (.ref a1), .val (.int (7 : Int32))] [(.int (6 : Int32)), (.ref a1)]))
  refine own_baload (pc' := 11) (v := (.int (own_at bs 6))) X0 hx hZ e0 V1 ⟨by decide, by decide⟩ (own_getm bs 6) (hb hby d4_10) rfl ?_
  refine own_bipush (pc' := 13) X0 hx (10 : Int32) (hb hby d4_11) rfl rfl ?_
  refine own_icmp_ne (pt := 18) (pf := 16) X0 hx (hb hby d4_13) rfl (by decide) rfl (fun hc13 => ?_) (fun hc13 => ?_)
  · skip
    refine own_aloadN (pc' := 19) X0 hx (hb hby d4_18) rfl rfl rfl ?_
    refine own_iloadN (pc' := 20) X0 hx (hb hby d4_19) rfl rfl ?_
    refine own_iconst (pc' := 21) X0 hx (1 : Int32) (hb hby d4_20) rfl rfl ?_
    refine own_isub (pc' := 22) X0 hx (hb hby d4_21) rfl ?_
    show own_WP _ _ _ _ _ _ _ (s₁.setTop (mkF m 22 #[.val (.ref a1), .val (.int (7 : Int32))] [(.int (6 : Int32)), (.ref a1)]))
    refine own_baload (pc' := 23) (v := (.int (own_at bs 6))) X0 hx hZ e0 V1 ⟨by decide, by decide⟩ (own_getm bs 6) (hb hby d4_22) rfl ?_
    refine own_bipush (pc' := 25) X0 hx (13 : Int32) (hb hby d4_23) rfl rfl ?_
    refine own_icmp_ne (pt := 51) (pf := 28) X0 hx (hb hby d4_25) rfl (by decide) rfl (fun hc25 => ?_) (fun hc25 => ?_)
    · skip
      refine own_iconst (pc' := 52) X0 hx (0 : Int32) (hb hby d4_51) rfl rfl ?_
      refine own_retN X0 hx hlk (t := .boolean) (by decide) hret (hb hby d4_52) (by decide) (by decide) ?_
      refine ⟨(0 : Int32), rfl, ?_, rfl, e0⟩
      simp [own_bb, own_E, hc13, hc25]
    · skip
      refine own_iloadN (pc' := 29) X0 hx (hb hby d4_28) rfl rfl ?_
      refine own_iconst (pc' := 30) X0 hx (1 : Int32) (hb hby d4_29) rfl rfl ?_
      refine own_icmp_ne (pt := 35) (pf := 33) X0 hx (hb hby d4_30) rfl (by decide) rfl (fun hc30 => ?_) (fun hc30 => absurd hc30 (by decide))
      refine own_aloadN (pc' := 36) X0 hx (hb hby d4_35) rfl rfl rfl ?_
      refine own_iloadN (pc' := 37) X0 hx (hb hby d4_36) rfl rfl ?_
      refine own_iconst (pc' := 38) X0 hx (2 : Int32) (hb hby d4_37) rfl rfl ?_
      refine own_isub (pc' := 39) X0 hx (hb hby d4_38) rfl ?_
      show own_WP _ _ _ _ _ _ _ (s₁.setTop (mkF m 39 #[.val (.ref a1), .val (.int (7 : Int32))] [(.int (5 : Int32)), (.ref a1)]))
      refine own_baload (pc' := 40) (v := (.int (own_at bs 5))) X0 hx hZ e0 V1 ⟨by decide, by decide⟩ (own_getm bs 5) (hb hby d4_39) rfl ?_
      refine own_bipush (pc' := 42) X0 hx (10 : Int32) (hb hby d4_40) rfl rfl ?_
      refine own_icmp_ne (pt := 49) (pf := 45) X0 hx (hb hby d4_42) rfl (by decide) rfl (fun hc42 => ?_) (fun hc42 => ?_)
      · skip
        refine own_iconst (pc' := 50) X0 hx (0 : Int32) (hb hby d4_49) rfl rfl ?_
        refine own_retN X0 hx hlk (t := .boolean) (by decide) hret (hb hby d4_50) (by decide) (by decide) ?_
        refine ⟨(0 : Int32), rfl, ?_, rfl, e0⟩
        simp [own_bb, own_E, hc13, hc25, hc42]
      · skip
        refine own_iconst (pc' := 46) X0 hx (1 : Int32) (hb hby d4_45) rfl rfl ?_
        refine own_goto (pc' := 50) X0 hx (hb hby d4_46) (by decide) rfl ?_
        refine own_retN X0 hx hlk (t := .boolean) (by decide) hret (hb hby d4_50) (by decide) (by decide) ?_
        refine ⟨(1 : Int32), rfl, ?_, rfl, e0⟩
        simp [own_bb, own_E, hc13, hc25, hc42]
  · skip
    refine own_iconst (pc' := 17) X0 hx (1 : Int32) (hb hby d4_16) rfl rfl ?_
    refine own_retN X0 hx hlk (t := .boolean) (by decide) hret (hb hby d4_17) (by decide) (by decide) ?_
    refine ⟨(1 : Int32), rfl, ?_, rfl, e0⟩
    simp [own_bb, own_E, hc13]
theorem ef_conF7 (m : MethodId) (a1 : Addr) (c1 : Int32) : entryFrame m #[(.ref a1), (.int c1), (.int (7 : Int32))] 3 = mkF m 0 #[.val (.ref a1), .val (.int c1), .val (.int (7 : Int32))] [] := by first | (simp [entryFrame, mkF, argsToLocals, Value.category]; done) | rfl
set_option maxRecDepth 65536 in
set_option maxHeartbeats 4000000 in
theorem conF7 (l : Launch) (Z : State) (a0 : Array Value) (hw : ∀ d ∈ tables_1, d.before a0 Z = true) (a1 : Addr) (c1 : Int32) (h0 : Heap) (kk : ClassId) (bs : List Int32) (V1 : Arv Z h0 a1 kk .byte 8 (bs.map Value.int) (.int 0)) (hl : 0 ≤ c1.toInt) :
    own_Con l Z (⟨"com/example/steerage/steerage/agent/HttpHeadEndPinLaw", "full", "([BII)Z"⟩ : MethodName) method_6_code 3 (some .boolean) ({ frames := 1, cells := 0, slots := 0, locals := 14 } : Room) #[(.ref a1), (.int c1), (.int (7 : Int32))] h0 (fun v h L => ∃ z : Int32, v = some (.int z) ∧ (z = own_bb ((7 < c1.toInt.toNat ∧ own_at bs 7 = 10) ∧ ¬ own_E (own_at bs) 7)) ∧ L = [] ∧ h = h0) := by
  refine own_Con_of pn_2 ?_
  intro p e s m below meth c s₁ X0 hx hby hml hret hlk hnm hown hZ e0
  have hown : s.vm.findClass "com/example/steerage/steerage/agent/HttpHeadEndPinLaw" = some m.cls := hown
  have hml : c.maxLocals = 3 := hml
  show own_WP _ _ _ _ _ _ _ (s₁.setTop (entryFrame m #[(.ref a1), (.int c1), (.int (7 : Int32))] 3))
  rw [ef_conF7 m a1 c1]
  refine own_aloadN (pc' := 1) X0 hx (hb hby d2_0) rfl rfl rfl ?_
  refine own_iloadN (pc' := 2) X0 hx (hb hby d2_1) rfl rfl ?_
  refine own_iloadN (pc' := 3) X0 hx (hb hby d2_2) rfl rfl ?_
  refine own_callS (pc' := 6) (W := 0) (y := (⟨"com/example/steerage/steerage/agent/HttpHeadEndPinLaw", "lf", "([BII)Z"⟩ : MethodName)) X0 hx hZ hown (own_w hw 9 rfl) (own_w hw 10 rfl) (own_w hw 3 rfl) (own_w hw 11 rfl) (by decide) (conLf7 l Z a0 hw a1 c1 _ kk bs V1 hl) e0 pd0 [(.ref a1), (.int c1), (.int (7 : Int32))] [] rfl rfl rfl (Nat.le_of_eq rfl) (by decide) (by decide) (by rw [hml]; rfl) (hb hby d2_3) (by decide) (by decide) rfl ?_
  intro v1 T1 L1 X1 q1
  obtain ⟨r1, rfl, hr1, rfl, e1⟩ := q1
  show own_WP _ _ _ _ _ _ _ (T1.setTop (mkF m 6 #[.val (.ref a1), .val (.int c1), .val (.int (7 : Int32))] [(.int r1)]))
  refine own_if_eq (pt := 21) (pf := 9) X1 hx (hb hby d2_6) rfl (by decide) rfl (fun hc6 => ?_) (fun hc6 => ?_)
  · skip
    refine own_iconst (pc' := 22) X1 hx (0 : Int32) (hb hby d2_21) rfl rfl ?_
    refine own_retN X1 hx hlk (t := .boolean) (by decide) hret (hb hby d2_22) (by decide) (by decide) ?_
    refine ⟨(0 : Int32), rfl, ?_, rfl, e1⟩
    have q1 := own_bb0 hr1 hc6
    rw [own_bb, if_neg (fun q => q1 q.1)]
  · skip
    refine own_aloadN (pc' := 10) X1 hx (hb hby d2_9) rfl rfl rfl ?_
    refine own_iloadN (pc' := 11) X1 hx (hb hby d2_10) rfl rfl ?_
    refine own_callS (pc' := 14) (W := 0) (y := (⟨"com/example/steerage/steerage/agent/HttpHeadEndPinLaw", "emptyAt", "([BI)Z"⟩ : MethodName)) X1 hx hZ hown (own_w hw 12 rfl) (own_w hw 13 rfl) (own_w hw 3 rfl) (own_w hw 14 rfl) (by decide) (conEm7 l Z a0 hw a1 _ kk bs V1) e1 pd1 [(.ref a1), (.int (7 : Int32))] [] rfl rfl rfl (Nat.le_of_eq rfl) (by decide) (by decide) (by rw [hml]; rfl) (hb hby d2_11) (by decide) (by decide) rfl ?_
    intro v2 T2 L2 X2 q2
    obtain ⟨r2, rfl, hr2, rfl, e2⟩ := q2
    show own_WP _ _ _ _ _ _ _ (T2.setTop (mkF m 14 #[.val (.ref a1), .val (.int c1), .val (.int (7 : Int32))] [(.int r2)]))
    refine own_if_ne (pt := 21) (pf := 17) X2 hx (hb hby d2_14) rfl (by decide) rfl (fun hc14 => ?_) (fun hc14 => ?_)
    · skip
      refine own_iconst (pc' := 22) X2 hx (0 : Int32) (hb hby d2_21) rfl rfl ?_
      refine own_retN X2 hx hlk (t := .boolean) (by decide) hret (hb hby d2_22) (by decide) (by decide) ?_
      refine ⟨(0 : Int32), rfl, ?_, rfl, e2⟩
      have q1 := own_bb1 hr1 hc6
      have q2 := own_bb1 hr2 hc14
      rw [own_bb, if_neg (fun q => q.2 q2)]
    · skip
      refine own_iconst (pc' := 18) X2 hx (1 : Int32) (hb hby d2_17) rfl rfl ?_
      refine own_goto (pc' := 22) X2 hx (hb hby d2_18) (by decide) rfl ?_
      refine own_retN X2 hx hlk (t := .boolean) (by decide) hret (hb hby d2_22) (by decide) (by decide) ?_
      refine ⟨(1 : Int32), rfl, ?_, rfl, e2⟩
      have q1 := own_bb1 hr1 hc6
      have q2 := own_bb0 hr2 hc14
      rw [own_bb, if_pos ⟨q1, q2⟩]
theorem ef_conB7 (m : MethodId) (a1 : Addr) (c1 : Int32) : entryFrame m #[(.ref a1), (.int c1), (.int (7 : Int32))] 3 = mkF m 0 #[.val (.ref a1), .val (.int c1), .val (.int (7 : Int32))] [] := by first | (simp [entryFrame, mkF, argsToLocals, Value.category]; done) | rfl
set_option maxRecDepth 65536 in
set_option maxHeartbeats 4000000 in
theorem conB7 (l : Launch) (Z : State) (a0 : Array Value) (hw : ∀ d ∈ tables_1, d.before a0 Z = true) (a1 : Addr) (c1 : Int32) (h0 : Heap) (kk : ClassId) (bs : List Int32) (V1 : Arv Z h0 a1 kk .byte 8 (bs.map Value.int) (.int 0)) (hl : 0 ≤ c1.toInt) :
    own_Con l Z (⟨"com/example/steerage/steerage/agent/HttpHeadEndPinLaw", "blank", "([BII)Z"⟩ : MethodName) method_5_code 3 (some .boolean) ({ frames := 1, cells := 0, slots := 0, locals := 14 } : Room) #[(.ref a1), (.int c1), (.int (7 : Int32))] h0 (fun v h L => ∃ z : Int32, v = some (.int z) ∧ (z = own_bb ((7 < c1.toInt.toNat ∧ own_at bs 7 = 10) ∧ own_E (own_at bs) 7)) ∧ L = [] ∧ h = h0) := by
  refine own_Con_of pn_7 ?_
  intro p e s m below meth c s₁ X0 hx hby hml hret hlk hnm hown hZ e0
  have hown : s.vm.findClass "com/example/steerage/steerage/agent/HttpHeadEndPinLaw" = some m.cls := hown
  have hml : c.maxLocals = 3 := hml
  show own_WP _ _ _ _ _ _ _ (s₁.setTop (entryFrame m #[(.ref a1), (.int c1), (.int (7 : Int32))] 3))
  rw [ef_conB7 m a1 c1]
  refine own_aloadN (pc' := 1) X0 hx (hb hby d7_0) rfl rfl rfl ?_
  refine own_iloadN (pc' := 2) X0 hx (hb hby d7_1) rfl rfl ?_
  refine own_iloadN (pc' := 3) X0 hx (hb hby d7_2) rfl rfl ?_
  refine own_callS (pc' := 6) (W := 0) (y := (⟨"com/example/steerage/steerage/agent/HttpHeadEndPinLaw", "lf", "([BII)Z"⟩ : MethodName)) X0 hx hZ hown (own_w hw 9 rfl) (own_w hw 10 rfl) (own_w hw 3 rfl) (own_w hw 11 rfl) (by decide) (conLf7 l Z a0 hw a1 c1 _ kk bs V1 hl) e0 pd0 [(.ref a1), (.int c1), (.int (7 : Int32))] [] rfl rfl rfl (Nat.le_of_eq rfl) (by decide) (by decide) (by rw [hml]; rfl) (hb hby d7_3) (by decide) (by decide) rfl ?_
  intro v1 T1 L1 X1 q1
  obtain ⟨r1, rfl, hr1, rfl, e1⟩ := q1
  show own_WP _ _ _ _ _ _ _ (T1.setTop (mkF m 6 #[.val (.ref a1), .val (.int c1), .val (.int (7 : Int32))] [(.int r1)]))
  refine own_if_eq (pt := 21) (pf := 9) X1 hx (hb hby d7_6) rfl (by decide) rfl (fun hc6 => ?_) (fun hc6 => ?_)
  · skip
    refine own_iconst (pc' := 22) X1 hx (0 : Int32) (hb hby d7_21) rfl rfl ?_
    refine own_retN X1 hx hlk (t := .boolean) (by decide) hret (hb hby d7_22) (by decide) (by decide) ?_
    refine ⟨(0 : Int32), rfl, ?_, rfl, e1⟩
    have q1 := own_bb0 hr1 hc6
    rw [own_bb, if_neg (fun q => q1 q.1)]
  · skip
    refine own_aloadN (pc' := 10) X1 hx (hb hby d7_9) rfl rfl rfl ?_
    refine own_iloadN (pc' := 11) X1 hx (hb hby d7_10) rfl rfl ?_
    refine own_callS (pc' := 14) (W := 0) (y := (⟨"com/example/steerage/steerage/agent/HttpHeadEndPinLaw", "emptyAt", "([BI)Z"⟩ : MethodName)) X1 hx hZ hown (own_w hw 12 rfl) (own_w hw 13 rfl) (own_w hw 3 rfl) (own_w hw 14 rfl) (by decide) (conEm7 l Z a0 hw a1 _ kk bs V1) e1 pd1 [(.ref a1), (.int (7 : Int32))] [] rfl rfl rfl (Nat.le_of_eq rfl) (by decide) (by decide) (by rw [hml]; rfl) (hb hby d7_11) (by decide) (by decide) rfl ?_
    intro v2 T2 L2 X2 q2
    obtain ⟨r2, rfl, hr2, rfl, e2⟩ := q2
    show own_WP _ _ _ _ _ _ _ (T2.setTop (mkF m 14 #[.val (.ref a1), .val (.int c1), .val (.int (7 : Int32))] [(.int r2)]))
    refine own_if_eq (pt := 21) (pf := 17) X2 hx (hb hby d7_14) rfl (by decide) rfl (fun hc14 => ?_) (fun hc14 => ?_)
    · skip
      refine own_iconst (pc' := 22) X2 hx (0 : Int32) (hb hby d7_21) rfl rfl ?_
      refine own_retN X2 hx hlk (t := .boolean) (by decide) hret (hb hby d7_22) (by decide) (by decide) ?_
      refine ⟨(0 : Int32), rfl, ?_, rfl, e2⟩
      have q1 := own_bb1 hr1 hc6
      have q2 := own_bb0 hr2 hc14
      rw [own_bb, if_neg (fun q => q2 q.2)]
    · skip
      refine own_iconst (pc' := 18) X2 hx (1 : Int32) (hb hby d7_17) rfl rfl ?_
      refine own_goto (pc' := 22) X2 hx (hb hby d7_18) (by decide) rfl ?_
      refine own_retN X2 hx hlk (t := .boolean) (by decide) hret (hb hby d7_22) (by decide) (by decide) ?_
      refine ⟨(1 : Int32), rfl, ?_, rfl, e2⟩
      have q1 := own_bb1 hr1 hc6
      have q2 := own_bb1 hr2 hc14
      rw [own_bb, if_pos ⟨q1, q2⟩]
theorem d6_0 : decode prog_23_method_4_code 0 = .ok (.iload_n 1, 1) := by decide +kernel
theorem d6_1 : decode prog_23_method_4_code 1 = .ok (.istore_n 3, 1) := by decide +kernel
theorem d6_2 : decode prog_23_method_4_code 2 = .ok (.iload_n 3, 1) := by decide +kernel
theorem d6_3 : decode prog_23_method_4_code 3 = .ok (.iload_n 2, 1) := by decide +kernel
theorem d6_4 : decode prog_23_method_4_code 4 = .ok (.if_icmp .ge 19, 3) := by decide +kernel
theorem d6_7 : decode prog_23_method_4_code 7 = .ok (.aload_n 0, 1) := by decide +kernel
theorem d6_8 : decode prog_23_method_4_code 8 = .ok (.iload_n 3, 1) := by decide +kernel
theorem d6_9 : decode prog_23_method_4_code 9 = .ok (.baload, 1) := by decide +kernel
theorem d6_10 : decode prog_23_method_4_code 10 = .ok (.bipush 10, 2) := by decide +kernel
theorem d6_12 : decode prog_23_method_4_code 12 = .ok (.if_icmp .ne 5, 3) := by decide +kernel
theorem d6_15 : decode prog_23_method_4_code 15 = .ok (.iload_n 3, 1) := by decide +kernel
theorem d6_16 : decode prog_23_method_4_code 16 = .ok (.ireturn, 1) := by decide +kernel
theorem d6_17 : decode prog_23_method_4_code 17 = .ok (.iinc 3 1, 3) := by decide +kernel
theorem d6_20 : decode prog_23_method_4_code 20 = .ok (.goto (-18), 3) := by decide +kernel
theorem d6_23 : decode prog_23_method_4_code 23 = .ok (.iconst (-1), 1) := by decide +kernel
theorem d6_24 : decode prog_23_method_4_code 24 = .ok (.ireturn, 1) := by decide +kernel
theorem pn_6 : plainFor (⟨"com/example/steerage/steerage/agent/HttpHead", "lineEnd", "([BII)I"⟩ : MethodName) = true := plainFor_of_name (by first | (simp [plainName, overriddenIn]; done) | decide +kernel)
set_option maxRecDepth 65536 in
set_option maxHeartbeats 4000000 in
theorem lpL {p : Program} {l : Launch} {e : Env} {R : Room} {s : State} {m : MethodId} {args : Array Value} {below : List Frame} {meth : Method} {c : Code} {Z : State} {a0 : Array Value} (hw : ∀ d ∈ tables_1, d.before a0 Z = true) (hx : p.tables.exec = Jvm.exec) (hby : c.code = prog_23_method_4_code) (hml : c.maxLocals = 4) (hret : meth.sig.returnType = (some .int)) (hlk : meth.locks = false) (hown : s.vm.findClass "com/example/steerage/steerage/agent/HttpHead" = some m.cls) (hZ : Z.Warmed39 s.vm) {h0 : Heap} {T0 : State} (X0 : Stand p l e R s m args below meth c T0 [] 0 0) (e0 : T0.heap = h0) (a1 : Addr) (kk : ClassId) (bs : List Int32) (V1 : Arv Z h0 a1 kk .byte 8 (bs.map Value.int) (.int 0)) (f t : Int32) (hf : 0 ≤ f.toInt) (ht : t.toInt ≤ 8) :
    ∀ (k : Nat) (i : Int32), ((t.toInt - i.toInt).toNat = k) → (0 ≤ i.toInt) → (f.toInt ≤ i.toInt) → (∀ j, f.toInt.toNat ≤ j → j < i.toInt.toNat → ¬ own_at bs j = 10) → own_WP p e below s (fun v h L => ∃ z : Int32, v = some (.int z) ∧ (own_LE bs f.toInt.toNat t.toInt.toNat z) ∧ L = [] ∧ h = h0) 0 0 (T0.setTop (mkF m 2 #[.val (.ref a1), .val (.int f), .val (.int t), .val (.int i)] [])) := by
  intro k
  induction k using Nat.strongRecOn with | _ k ih => ?_
  intro i hk hi0 hfi hno
  refine own_iloadN (pc' := 3) X0 hx (hb hby d6_2) rfl rfl ?_
  refine own_iloadN (pc' := 4) X0 hx (hb hby d6_3) rfl rfl ?_
  refine own_icmp_ge (pt := 23) (pf := 7) X0 hx (hb hby d6_4) rfl (by decide) rfl (fun hc4 => ?_) (fun hc4 => ?_)
  · skip
    refine own_iconst (pc' := 24) X0 hx (-1 : Int32) (hb hby d6_23) rfl rfl ?_
    refine own_retI X0 hx hlk hret (hb hby d6_24) (by decide) (by decide) ?_
    refine ⟨-1, rfl, Or.inl ⟨rfl, fun j h1 h2 => hno j h1 ?_⟩, rfl, e0⟩
    rw [own_ltI] at hc4
    omega
  · skip
    refine own_aloadN (pc' := 8) X0 hx (hb hby d6_7) rfl rfl rfl ?_
    refine own_iloadN (pc' := 9) X0 hx (hb hby d6_8) rfl rfl ?_
    refine own_baload (pc' := 10) (v := (.int (own_at bs i.toInt.toNat))) X0 hx hZ e0 V1 (own_idx (by omega) (by rw [own_ltI] at hc4; omega)) (own_getm bs _) (hb hby d6_9) rfl ?_
    refine own_bipush (pc' := 12) X0 hx (10 : Int32) (hb hby d6_10) rfl rfl ?_
    refine own_icmp_ne (pt := 17) (pf := 15) X0 hx (hb hby d6_12) rfl (by decide) rfl (fun hc12 => ?_) (fun hc12 => ?_)
    · skip
      obtain ⟨v1, hv1⟩ : ∃ z : Int32, z = (i + (1 : Int32)) := ⟨_, rfl⟩
      refine own_iinc (pc' := 20) (l' := #[.val (.ref a1), .val (.int f), .val (.int t), .val (.int v1)]) X0 hx (hb hby d6_17) rfl hv1 rfl rfl ?_
      refine own_goto (pc' := 2) X0 hx (hb hby d6_20) (by decide) rfl ?_
      have hv := own_inc hv1 hi0 (by rw [own_ltI] at hc4; omega)
      rw [own_ltI] at hc4
      exact ih _ (by omega) v1 rfl (by omega) (by omega) (fun j h1 h2 => by
          rcases Nat.lt_or_ge j i.toInt.toNat with q | q
          · exact hno j h1 q
          · have e : j = i.toInt.toNat := by omega
            rw [e]; exact hc12)
    · skip
      refine own_iloadN (pc' := 16) X0 hx (hb hby d6_15) rfl rfl ?_
      refine own_retI X0 hx hlk hret (hb hby d6_16) (by decide) (by decide) ?_
      refine ⟨i, rfl, Or.inr ⟨i.toInt.toNat, by omega, by omega, by rw [own_ltI] at hc4; omega, hc12, hno⟩, rfl, e0⟩
theorem ef_conLE (m : MethodId) (a1 : Addr) (c1 : Int32) (c2 : Int32) : entryFrame m #[(.ref a1), (.int c1), (.int c2)] 4 = mkF m 0 #[.val (.ref a1), .val (.int c1), .val (.int c2), .unset] [] := by first | (simp [entryFrame, mkF, argsToLocals, Value.category]; done) | rfl
set_option maxRecDepth 65536 in
set_option maxHeartbeats 4000000 in
theorem conLE (l : Launch) (Z : State) (a0 : Array Value) (hw : ∀ d ∈ tables_1, d.before a0 Z = true) (a1 : Addr) (c1 : Int32) (c2 : Int32) (h0 : Heap) (kk : ClassId) (bs : List Int32) (V1 : Arv Z h0 a1 kk .byte 8 (bs.map Value.int) (.int 0)) (hf : 0 ≤ c1.toInt) (ht : c2.toInt ≤ 8) :
    own_Con l Z (⟨"com/example/steerage/steerage/agent/HttpHead", "lineEnd", "([BII)I"⟩ : MethodName) prog_23_method_4_code 4 (some .int) ({ frames := 0, cells := 0, slots := 0, locals := 0 } : Room) #[(.ref a1), (.int c1), (.int c2)] h0 (fun v h L => ∃ z : Int32, v = some (.int z) ∧ (own_LE bs c1.toInt.toNat c2.toInt.toNat z) ∧ L = [] ∧ h = h0) := by
  refine own_Con_of pn_6 ?_
  intro p e s m below meth c s₁ X0 hx hby hml hret hlk hnm hown hZ e0
  have hown : s.vm.findClass "com/example/steerage/steerage/agent/HttpHead" = some m.cls := hown
  have hml : c.maxLocals = 4 := hml
  show own_WP _ _ _ _ _ _ _ (s₁.setTop (entryFrame m #[(.ref a1), (.int c1), (.int c2)] 4))
  rw [ef_conLE m a1 c1 c2]
  refine own_iloadN (pc' := 1) X0 hx (hb hby d6_0) rfl rfl ?_
  refine own_istoreN (pc' := 2) (l' := #[.val (.ref a1), .val (.int c1), .val (.int c2), .val (.int c1)]) X0 hx (hb hby d6_1) rfl rfl rfl ?_
  exact lpL hw hx hby hml hret hlk hown hZ X0 e0 a1 kk bs V1 c1 c2 hf ht _ c1 rfl hf (Int.le_refl _) (fun j h1 h2 => by omega)
theorem d5_0 : decode prog_23_method_3_code 0 = .ok (.iconst 0, 1) := by decide +kernel
theorem d5_1 : decode prog_23_method_3_code 1 = .ok (.istore_n 2, 1) := by decide +kernel
theorem d5_2 : decode prog_23_method_3_code 2 = .ok (.iconst 0, 1) := by decide +kernel
theorem d5_3 : decode prog_23_method_3_code 3 = .ok (.istore_n 3, 1) := by decide +kernel
theorem d5_4 : decode prog_23_method_3_code 4 = .ok (.aload_n 0, 1) := by decide +kernel
theorem d5_5 : decode prog_23_method_3_code 5 = .ok (.iload_n 2, 1) := by decide +kernel
theorem d5_6 : decode prog_23_method_3_code 6 = .ok (.iload_n 1, 1) := by decide +kernel
theorem d5_7 : decode prog_23_method_3_code 7 = .ok (.invokestatic 96, 3) := by decide +kernel
theorem d5_10 : decode prog_23_method_3_code 10 = .ok (.istore 4, 2) := by decide +kernel
theorem d5_12 : decode prog_23_method_3_code 12 = .ok (.iload 4, 2) := by decide +kernel
theorem d5_14 : decode prog_23_method_3_code 14 = .ok (.ifCond .lt 72, 3) := by decide +kernel
theorem d5_17 : decode prog_23_method_3_code 17 = .ok (.iload 4, 2) := by decide +kernel
theorem d5_19 : decode prog_23_method_3_code 19 = .ok (.iload_n 2, 1) := by decide +kernel
theorem d5_20 : decode prog_23_method_3_code 20 = .ok (.if_icmp .eq 19, 3) := by decide +kernel
theorem d5_23 : decode prog_23_method_3_code 23 = .ok (.iload 4, 2) := by decide +kernel
theorem d5_25 : decode prog_23_method_3_code 25 = .ok (.iload_n 2, 1) := by decide +kernel
theorem d5_26 : decode prog_23_method_3_code 26 = .ok (.iconst 1, 1) := by decide +kernel
theorem d5_27 : decode prog_23_method_3_code 27 = .ok (.iadd, 1) := by decide +kernel
theorem d5_28 : decode prog_23_method_3_code 28 = .ok (.if_icmp .ne 15, 3) := by decide +kernel
theorem d5_31 : decode prog_23_method_3_code 31 = .ok (.aload_n 0, 1) := by decide +kernel
theorem d5_32 : decode prog_23_method_3_code 32 = .ok (.iload_n 2, 1) := by decide +kernel
theorem d5_33 : decode prog_23_method_3_code 33 = .ok (.baload, 1) := by decide +kernel
theorem d5_34 : decode prog_23_method_3_code 34 = .ok (.bipush 13, 2) := by decide +kernel
theorem d5_36 : decode prog_23_method_3_code 36 = .ok (.if_icmp .ne 7, 3) := by decide +kernel
theorem d5_39 : decode prog_23_method_3_code 39 = .ok (.iconst 1, 1) := by decide +kernel
theorem d5_40 : decode prog_23_method_3_code 40 = .ok (.goto 4, 3) := by decide +kernel
theorem d5_43 : decode prog_23_method_3_code 43 = .ok (.iconst 0, 1) := by decide +kernel
theorem d5_44 : decode prog_23_method_3_code 44 = .ok (.istore 5, 2) := by decide +kernel
theorem d5_46 : decode prog_23_method_3_code 46 = .ok (.iload 4, 2) := by decide +kernel
theorem d5_48 : decode prog_23_method_3_code 48 = .ok (.iconst 1, 1) := by decide +kernel
theorem d5_49 : decode prog_23_method_3_code 49 = .ok (.iadd, 1) := by decide +kernel
theorem d5_50 : decode prog_23_method_3_code 50 = .ok (.istore_n 2, 1) := by decide +kernel
theorem d5_51 : decode prog_23_method_3_code 51 = .ok (.iload 5, 2) := by decide +kernel
theorem d5_53 : decode prog_23_method_3_code 53 = .ok (.ifCond .eq 9, 3) := by decide +kernel
theorem d5_56 : decode prog_23_method_3_code 56 = .ok (.iload_n 3, 1) := by decide +kernel
theorem d5_57 : decode prog_23_method_3_code 57 = .ok (.ifCond .eq 5, 3) := by decide +kernel
theorem d5_60 : decode prog_23_method_3_code 60 = .ok (.iload_n 2, 1) := by decide +kernel
theorem d5_61 : decode prog_23_method_3_code 61 = .ok (.ireturn, 1) := by decide +kernel
theorem d5_62 : decode prog_23_method_3_code 62 = .ok (.iload_n 3, 1) := by decide +kernel
theorem d5_63 : decode prog_23_method_3_code 63 = .ok (.iload 5, 2) := by decide +kernel
theorem d5_65 : decode prog_23_method_3_code 65 = .ok (.ifCond .ne 7, 3) := by decide +kernel
theorem d5_68 : decode prog_23_method_3_code 68 = .ok (.iconst 1, 1) := by decide +kernel
theorem d5_69 : decode prog_23_method_3_code 69 = .ok (.goto 4, 3) := by decide +kernel
theorem d5_72 : decode prog_23_method_3_code 72 = .ok (.iconst 0, 1) := by decide +kernel
theorem d5_73 : decode prog_23_method_3_code 73 = .ok (.ior, 1) := by decide +kernel
theorem d5_74 : decode prog_23_method_3_code 74 = .ok (.istore_n 3, 1) := by decide +kernel
theorem d5_75 : decode prog_23_method_3_code 75 = .ok (.aload_n 0, 1) := by decide +kernel
theorem d5_76 : decode prog_23_method_3_code 76 = .ok (.iload_n 2, 1) := by decide +kernel
theorem d5_77 : decode prog_23_method_3_code 77 = .ok (.iload_n 1, 1) := by decide +kernel
theorem d5_78 : decode prog_23_method_3_code 78 = .ok (.invokestatic 96, 3) := by decide +kernel
theorem d5_81 : decode prog_23_method_3_code 81 = .ok (.istore 4, 2) := by decide +kernel
theorem d5_83 : decode prog_23_method_3_code 83 = .ok (.goto (-71), 3) := by decide +kernel
theorem d5_86 : decode prog_23_method_3_code 86 = .ok (.iconst (-1), 1) := by decide +kernel
theorem d5_87 : decode prog_23_method_3_code 87 = .ok (.ireturn, 1) := by decide +kernel
theorem pn_5 : plainFor (⟨"com/example/steerage/steerage/agent/HttpHead", "end", "([BI)I"⟩ : MethodName) = true := plainFor_of_name (by first | (simp [plainName, overriddenIn]; done) | decide +kernel)
theorem pd2 : parseMethodDescriptor "([BII)I" = some ⟨[(.array .byte), .int, .int], some .int⟩ := by decide +kernel
set_option maxRecDepth 65536 in
set_option maxHeartbeats 4000000 in
theorem lpE {p : Program} {l : Launch} {e : Env} {s : State} {m : MethodId} {args : Array Value} {below : List Frame} {meth : Method} {c : Code} {Z : State} {a0 : Array Value} (hw : ∀ d ∈ tables_1, d.before a0 Z = true) (hx : p.tables.exec = Jvm.exec) (hby : c.code = prog_23_method_3_code) (hml : c.maxLocals = 6) (hret : meth.sig.returnType = (some .int)) (hlk : meth.locks = false) (hown : s.vm.findClass "com/example/steerage/steerage/agent/HttpHead" = some m.cls) (hZ : Z.Warmed39 s.vm) {h0 : Heap} (a1 : Addr) (kk : ClassId) (bs : List Int32) (V1 : Arv Z h0 a1 kk .byte 8 (bs.map Value.int) (.int 0)) (len : Int32) (hl0 : 0 ≤ len.toInt) (hl8 : len.toInt ≤ 8) (RR : Int) :
    ∀ (k : Nat) (T0 : State) (f : Int32) (sn : Int32) (pp : Int32) (sl : Slot), (Stand p l e ({ frames := 1, cells := 0, slots := 0, locals := 15 } : Room) s m args below meth c T0 [] 0 0) → (T0.heap = h0) → ((8 - f.toInt).toNat = k) → (0 ≤ f.toInt) → (sn = 0 ∨ sn = 1) → (RR = own_A (own_at bs) len.toInt.toNat (8 - f.toInt.toNat) f.toInt.toNat 0 (decide (sn = 1))) → (own_LE bs f.toInt.toNat len.toInt.toNat pp) → (sl = .unset ∨ ∃ z, sl = .val (.int z)) → own_WP p e below s (fun v h L => ∃ z : Int32, v = some (.int z) ∧ (z.toInt = RR) ∧ L = [] ∧ h = h0) 0 0 (T0.setTop (mkF m 12 #[.val (.ref a1), .val (.int len), .val (.int f), .val (.int sn), .val (.int pp), sl] [])) := by
  intro k
  induction k using Nat.strongRecOn with | _ k ih => ?_
  intro T0 f sn pp sl X0 e0 hk hf hsn hR hLE hsl
  rcases hsl with rfl | ⟨z5, rfl⟩
  · skip
    show own_WP _ _ _ _ _ _ _ (T0.setTop (mkF m 12 #[.val (.ref a1), .val (.int len), .val (.int f), .val (.int sn), .val (.int pp), .unset] []))
    refine own_iload (pc' := 14) X0 hx (hb hby d5_12) rfl rfl ?_
    refine own_if_lt (pt := 86) (pf := 17) X0 hx (hb hby d5_14) rfl (by decide) rfl (fun hc14 => ?_) (fun hc14 => ?_)
    · skip
      refine own_iconst (pc' := 87) X0 hx (-1 : Int32) (hb hby d5_86) rfl rfl ?_
      refine own_retI X0 hx hlk hret (hb hby d5_87) (by decide) (by decide) ?_
      rcases hLE with ⟨-, hnone⟩ | ⟨p', hp', -⟩
      · exact ⟨-1, rfl, by rw [hR, own_Anone _ _ _ _ _ _ hnone]; decide, rfl, e0⟩
      · exfalso; rw [own_ltI, own_i0] at hc14; omega
    · skip
      rcases hLE with ⟨hm1, -⟩ | ⟨p', hp', hfp, hpt, hb10, hnolf⟩
      · exact absurd (by rw [hm1]; decide) hc14
      have hp8 : p' < 8 := by omega
      refine own_iload (pc' := 19) X0 hx (hb hby d5_17) rfl rfl ?_
      refine own_iloadN (pc' := 20) X0 hx (hb hby d5_19) rfl rfl ?_
      refine own_join (fun jx : Int32 => jx = if own_st (own_at bs) f.toInt.toNat p' = 2 then 0 else 1) (fun jx => T0.setTop (mkF m 44 #[.val (.ref a1), .val (.int len), .val (.int f), .val (.int sn), .val (.int pp), .unset] [(.int jx)])) (fun J44 => ?_) (fun jx hjx => ?_)
      · skip
        refine own_icmp_eq (pt := 39) (pf := 23) X0 hx (hb hby d5_20) rfl (by decide) rfl (fun hc20 => ?_) (fun hc20 => ?_)
        · skip
          refine own_iconst (pc' := 40) X0 hx (1 : Int32) (hb hby d5_39) rfl rfl ?_
          refine own_goto (pc' := 44) X0 hx (hb hby d5_40) (by decide) rfl ?_
          exact J44 (1 : Int32) (own_s0 hf hp' hc20)
        · skip
          refine own_iload (pc' := 25) X0 hx (hb hby d5_23) rfl rfl ?_
          refine own_iloadN (pc' := 26) X0 hx (hb hby d5_25) rfl rfl ?_
          refine own_iconst (pc' := 27) X0 hx (1 : Int32) (hb hby d5_26) rfl rfl ?_
          refine own_iadd (pc' := 28) X0 hx (hb hby d5_27) rfl ?_
          refine own_icmp_ne (pt := 43) (pf := 31) X0 hx (hb hby d5_28) rfl (by decide) rfl (fun hc28 => ?_) (fun hc28 => ?_)
          · skip
            refine own_iconst (pc' := 44) X0 hx (0 : Int32) (hb hby d5_43) rfl rfl ?_
            exact J44 (0 : Int32) (own_s2 hf hp' hc20 hc28)
          · skip
            refine own_aloadN (pc' := 32) X0 hx (hb hby d5_31) rfl rfl rfl ?_
            refine own_iloadN (pc' := 33) X0 hx (hb hby d5_32) rfl rfl ?_
            refine own_baload (pc' := 34) (v := (.int (own_at bs f.toInt.toNat))) X0 hx hZ e0 V1 (own_idx hf (by omega)) (own_getm bs _) (hb hby d5_33) rfl ?_
            refine own_bipush (pc' := 36) X0 hx (13 : Int32) (hb hby d5_34) rfl rfl ?_
            refine own_icmp_ne (pt := 43) (pf := 39) X0 hx (hb hby d5_36) rfl (by decide) rfl (fun hc36 => ?_) (fun hc36 => ?_)
            · skip
              refine own_iconst (pc' := 44) X0 hx (0 : Int32) (hb hby d5_43) rfl rfl ?_
              exact J44 (0 : Int32) (own_s3 hf hp' hc20 hc36)
            · skip
              refine own_iconst (pc' := 40) X0 hx (1 : Int32) (hb hby d5_39) rfl rfl ?_
              refine own_goto (pc' := 44) X0 hx (hb hby d5_40) (by decide) rfl ?_
              exact J44 (1 : Int32) (own_s1 hf hp' hc20 hc28 hc36)
      · skip
        show own_WP _ _ _ _ _ _ _ (T0.setTop (mkF m 44 #[.val (.ref a1), .val (.int len), .val (.int f), .val (.int sn), .val (.int pp), .unset] [(.int jx)]))
        refine own_istore (pc' := 46) (l' := #[.val (.ref a1), .val (.int len), .val (.int f), .val (.int sn), .val (.int pp), .val (.int jx)]) X0 hx (hb hby d5_44) rfl rfl rfl ?_
        refine own_iload (pc' := 48) X0 hx (hb hby d5_46) rfl rfl ?_
        refine own_iconst (pc' := 49) X0 hx (1 : Int32) (hb hby d5_48) rfl rfl ?_
        refine own_iadd (pc' := 50) X0 hx (hb hby d5_49) rfl ?_
        obtain ⟨v1, hv1⟩ : ∃ z : Int32, z = (pp + (1 : Int32)) := ⟨_, rfl⟩
        refine own_istoreN (pc' := 51) (l' := #[.val (.ref a1), .val (.int len), .val (.int v1), .val (.int sn), .val (.int pp), .val (.int jx)]) X0 hx (hb hby d5_50) hv1 rfl rfl ?_
        have hv : v1.toInt = ((p' + 1 : Nat) : Int) := by have := own_inc hv1 (by omega) (by omega); omega
        refine own_iload (pc' := 53) X0 hx (hb hby d5_51) rfl rfl ?_
        refine own_if_eq (pt := 62) (pf := 56) X0 hx (hb hby d5_53) rfl (by decide) rfl (fun hc53 => ?_) (fun hc53 => ?_)
        · skip
          refine own_iloadN (pc' := 63) X0 hx (hb hby d5_62) rfl rfl ?_
          refine own_iload (pc' := 65) X0 hx (hb hby d5_63) rfl rfl ?_
          refine own_join (fun jy : Int32 => jy = if jx = 0 then 1 else 0) (fun jy => T0.setTop (mkF m 73 #[.val (.ref a1), .val (.int len), .val (.int v1), .val (.int sn), .val (.int pp), .val (.int jx)] [(.int jy), (.int sn)])) (fun J73 => ?_) (fun jy hjy => ?_)
          · skip
            refine own_if_ne (pt := 72) (pf := 68) X0 hx (hb hby d5_65) rfl (by decide) rfl (fun hc65 => ?_) (fun hc65 => ?_)
            · skip
              refine own_iconst (pc' := 73) X0 hx (0 : Int32) (hb hby d5_72) rfl rfl ?_
              exact J73 (0 : Int32) ((if_neg hc65).symm)
            · skip
              refine own_iconst (pc' := 69) X0 hx (1 : Int32) (hb hby d5_68) rfl rfl ?_
              refine own_goto (pc' := 73) X0 hx (hb hby d5_69) (by decide) rfl ?_
              exact J73 (1 : Int32) ((if_pos hc65).symm)
          · skip
            show own_WP _ _ _ _ _ _ _ (T0.setTop (mkF m 73 #[.val (.ref a1), .val (.int len), .val (.int v1), .val (.int sn), .val (.int pp), .val (.int jx)] [(.int jy), (.int sn)]))
            refine own_ior (pc' := 74) X0 hx (hb hby d5_73) rfl ?_
            obtain ⟨v2, hv2⟩ : ∃ z : Int32, z = (sn ||| jy) := ⟨_, rfl⟩
            refine own_istoreN (pc' := 75) (l' := #[.val (.ref a1), .val (.int len), .val (.int v1), .val (.int v2), .val (.int pp), .val (.int jx)]) X0 hx (hb hby d5_74) hv2 rfl rfl ?_
            refine own_aloadN (pc' := 76) X0 hx (hb hby d5_75) rfl rfl rfl ?_
            refine own_iloadN (pc' := 77) X0 hx (hb hby d5_76) rfl rfl ?_
            refine own_iloadN (pc' := 78) X0 hx (hb hby d5_77) rfl rfl ?_
            refine own_callS (pc' := 81) (W := 0) (y := (⟨"com/example/steerage/steerage/agent/HttpHead", "lineEnd", "([BII)I"⟩ : MethodName)) X0 hx hZ hown (own_w hw 19 rfl) (own_w hw 20 rfl) (own_w hw 17 rfl) (own_w hw 21 rfl) (by decide) (conLE l Z a0 hw a1 v1 len _ kk bs V1 (by omega) hl8) e0 pd2 [(.ref a1), (.int v1), (.int len)] [] rfl rfl rfl (Nat.le_of_eq rfl) (by decide) (by decide) (by rw [hml]; rfl) (hb hby d5_78) (by decide) (by decide) rfl ?_
            intro v3 T3 L3 X3 q3
            obtain ⟨r3, rfl, hr3, rfl, e3⟩ := q3
            show own_WP _ _ _ _ _ _ _ (T3.setTop (mkF m 81 #[.val (.ref a1), .val (.int len), .val (.int v1), .val (.int v2), .val (.int pp), .val (.int jx)] [(.int r3)]))
            refine own_istore (pc' := 83) (l' := #[.val (.ref a1), .val (.int len), .val (.int v1), .val (.int v2), .val (.int r3), .val (.int jx)]) X3 hx (hb hby d5_81) rfl rfl rfl ?_
            refine own_goto (pc' := 12) X3 hx (hb hby d5_83) (by decide) rfl ?_
            have es := (own_estep hp8 hfp hpt hb10 hnolf hsn hR hjx hjy).2 (fun q => q.1 hc53)
            have hvn : v1.toInt.toNat = p' + 1 := by omega
            exact ih _ (by omega) T3 v1 v2 r3 _ X3 e3 rfl (by omega) (by rw [hv2]; exact es.2) (by rw [hv2, hvn]; exact es.1) hr3 (Or.inr ⟨_, rfl⟩)
        · skip
          refine own_iloadN (pc' := 57) X0 hx (hb hby d5_56) rfl rfl ?_
          refine own_if_eq (pt := 62) (pf := 60) X0 hx (hb hby d5_57) rfl (by decide) rfl (fun hc57 => ?_) (fun hc57 => ?_)
          · skip
            refine own_iloadN (pc' := 63) X0 hx (hb hby d5_62) rfl rfl ?_
            refine own_iload (pc' := 65) X0 hx (hb hby d5_63) rfl rfl ?_
            refine own_join (fun jy : Int32 => jy = if jx = 0 then 1 else 0) (fun jy => T0.setTop (mkF m 73 #[.val (.ref a1), .val (.int len), .val (.int v1), .val (.int sn), .val (.int pp), .val (.int jx)] [(.int jy), (.int sn)])) (fun J73 => ?_) (fun jy hjy => ?_)
            · skip
              refine own_if_ne (pt := 72) (pf := 68) X0 hx (hb hby d5_65) rfl (by decide) rfl (fun hc65 => ?_) (fun hc65 => ?_)
              · skip
                refine own_iconst (pc' := 73) X0 hx (0 : Int32) (hb hby d5_72) rfl rfl ?_
                exact J73 (0 : Int32) ((if_neg hc65).symm)
              · skip
                refine own_iconst (pc' := 69) X0 hx (1 : Int32) (hb hby d5_68) rfl rfl ?_
                refine own_goto (pc' := 73) X0 hx (hb hby d5_69) (by decide) rfl ?_
                exact J73 (1 : Int32) ((if_pos hc65).symm)
            · skip
              show own_WP _ _ _ _ _ _ _ (T0.setTop (mkF m 73 #[.val (.ref a1), .val (.int len), .val (.int v1), .val (.int sn), .val (.int pp), .val (.int jx)] [(.int jy), (.int sn)]))
              refine own_ior (pc' := 74) X0 hx (hb hby d5_73) rfl ?_
              obtain ⟨v4, hv4⟩ : ∃ z : Int32, z = (sn ||| jy) := ⟨_, rfl⟩
              refine own_istoreN (pc' := 75) (l' := #[.val (.ref a1), .val (.int len), .val (.int v1), .val (.int v4), .val (.int pp), .val (.int jx)]) X0 hx (hb hby d5_74) hv4 rfl rfl ?_
              refine own_aloadN (pc' := 76) X0 hx (hb hby d5_75) rfl rfl rfl ?_
              refine own_iloadN (pc' := 77) X0 hx (hb hby d5_76) rfl rfl ?_
              refine own_iloadN (pc' := 78) X0 hx (hb hby d5_77) rfl rfl ?_
              refine own_callS (pc' := 81) (W := 0) (y := (⟨"com/example/steerage/steerage/agent/HttpHead", "lineEnd", "([BII)I"⟩ : MethodName)) X0 hx hZ hown (own_w hw 19 rfl) (own_w hw 20 rfl) (own_w hw 17 rfl) (own_w hw 21 rfl) (by decide) (conLE l Z a0 hw a1 v1 len _ kk bs V1 (by omega) hl8) e0 pd2 [(.ref a1), (.int v1), (.int len)] [] rfl rfl rfl (Nat.le_of_eq rfl) (by decide) (by decide) (by rw [hml]; rfl) (hb hby d5_78) (by decide) (by decide) rfl ?_
              intro v5 T5 L5 X5 q5
              obtain ⟨r5, rfl, hr5, rfl, e5⟩ := q5
              show own_WP _ _ _ _ _ _ _ (T5.setTop (mkF m 81 #[.val (.ref a1), .val (.int len), .val (.int v1), .val (.int v4), .val (.int pp), .val (.int jx)] [(.int r5)]))
              refine own_istore (pc' := 83) (l' := #[.val (.ref a1), .val (.int len), .val (.int v1), .val (.int v4), .val (.int r5), .val (.int jx)]) X5 hx (hb hby d5_81) rfl rfl rfl ?_
              refine own_goto (pc' := 12) X5 hx (hb hby d5_83) (by decide) rfl ?_
              have es := (own_estep hp8 hfp hpt hb10 hnolf hsn hR hjx hjy).2 (fun q => q.2 hc57)
              have hvn : v1.toInt.toNat = p' + 1 := by omega
              exact ih _ (by omega) T5 v1 v4 r5 _ X5 e5 rfl (by omega) (by rw [hv4]; exact es.2) (by rw [hv4, hvn]; exact es.1) hr5 (Or.inr ⟨_, rfl⟩)
          · skip
            refine own_iloadN (pc' := 61) X0 hx (hb hby d5_60) rfl rfl ?_
            refine own_retI X0 hx hlk hret (hb hby d5_61) (by decide) (by decide) ?_
            refine ⟨v1, rfl, ?_, rfl, e0⟩
            have es := (own_estep (y := if jx = 0 then 1 else 0) hp8 hfp hpt hb10 hnolf hsn hR hjx rfl).1 hc53 hc57
            rw [hv, es]
  · skip
    show own_WP _ _ _ _ _ _ _ (T0.setTop (mkF m 12 #[.val (.ref a1), .val (.int len), .val (.int f), .val (.int sn), .val (.int pp), .val (.int z5)] []))
    refine own_iload (pc' := 14) X0 hx (hb hby d5_12) rfl rfl ?_
    refine own_if_lt (pt := 86) (pf := 17) X0 hx (hb hby d5_14) rfl (by decide) rfl (fun hc14 => ?_) (fun hc14 => ?_)
    · skip
      refine own_iconst (pc' := 87) X0 hx (-1 : Int32) (hb hby d5_86) rfl rfl ?_
      refine own_retI X0 hx hlk hret (hb hby d5_87) (by decide) (by decide) ?_
      rcases hLE with ⟨-, hnone⟩ | ⟨p', hp', -⟩
      · exact ⟨-1, rfl, by rw [hR, own_Anone _ _ _ _ _ _ hnone]; decide, rfl, e0⟩
      · exfalso; rw [own_ltI, own_i0] at hc14; omega
    · skip
      rcases hLE with ⟨hm1, -⟩ | ⟨p', hp', hfp, hpt, hb10, hnolf⟩
      · exact absurd (by rw [hm1]; decide) hc14
      have hp8 : p' < 8 := by omega
      refine own_iload (pc' := 19) X0 hx (hb hby d5_17) rfl rfl ?_
      refine own_iloadN (pc' := 20) X0 hx (hb hby d5_19) rfl rfl ?_
      refine own_join (fun jx : Int32 => jx = if own_st (own_at bs) f.toInt.toNat p' = 2 then 0 else 1) (fun jx => T0.setTop (mkF m 44 #[.val (.ref a1), .val (.int len), .val (.int f), .val (.int sn), .val (.int pp), .val (.int z5)] [(.int jx)])) (fun J44 => ?_) (fun jx hjx => ?_)
      · skip
        refine own_icmp_eq (pt := 39) (pf := 23) X0 hx (hb hby d5_20) rfl (by decide) rfl (fun hc20 => ?_) (fun hc20 => ?_)
        · skip
          refine own_iconst (pc' := 40) X0 hx (1 : Int32) (hb hby d5_39) rfl rfl ?_
          refine own_goto (pc' := 44) X0 hx (hb hby d5_40) (by decide) rfl ?_
          exact J44 (1 : Int32) (own_s0 hf hp' hc20)
        · skip
          refine own_iload (pc' := 25) X0 hx (hb hby d5_23) rfl rfl ?_
          refine own_iloadN (pc' := 26) X0 hx (hb hby d5_25) rfl rfl ?_
          refine own_iconst (pc' := 27) X0 hx (1 : Int32) (hb hby d5_26) rfl rfl ?_
          refine own_iadd (pc' := 28) X0 hx (hb hby d5_27) rfl ?_
          refine own_icmp_ne (pt := 43) (pf := 31) X0 hx (hb hby d5_28) rfl (by decide) rfl (fun hc28 => ?_) (fun hc28 => ?_)
          · skip
            refine own_iconst (pc' := 44) X0 hx (0 : Int32) (hb hby d5_43) rfl rfl ?_
            exact J44 (0 : Int32) (own_s2 hf hp' hc20 hc28)
          · skip
            refine own_aloadN (pc' := 32) X0 hx (hb hby d5_31) rfl rfl rfl ?_
            refine own_iloadN (pc' := 33) X0 hx (hb hby d5_32) rfl rfl ?_
            refine own_baload (pc' := 34) (v := (.int (own_at bs f.toInt.toNat))) X0 hx hZ e0 V1 (own_idx hf (by omega)) (own_getm bs _) (hb hby d5_33) rfl ?_
            refine own_bipush (pc' := 36) X0 hx (13 : Int32) (hb hby d5_34) rfl rfl ?_
            refine own_icmp_ne (pt := 43) (pf := 39) X0 hx (hb hby d5_36) rfl (by decide) rfl (fun hc36 => ?_) (fun hc36 => ?_)
            · skip
              refine own_iconst (pc' := 44) X0 hx (0 : Int32) (hb hby d5_43) rfl rfl ?_
              exact J44 (0 : Int32) (own_s3 hf hp' hc20 hc36)
            · skip
              refine own_iconst (pc' := 40) X0 hx (1 : Int32) (hb hby d5_39) rfl rfl ?_
              refine own_goto (pc' := 44) X0 hx (hb hby d5_40) (by decide) rfl ?_
              exact J44 (1 : Int32) (own_s1 hf hp' hc20 hc28 hc36)
      · skip
        show own_WP _ _ _ _ _ _ _ (T0.setTop (mkF m 44 #[.val (.ref a1), .val (.int len), .val (.int f), .val (.int sn), .val (.int pp), .val (.int z5)] [(.int jx)]))
        refine own_istore (pc' := 46) (l' := #[.val (.ref a1), .val (.int len), .val (.int f), .val (.int sn), .val (.int pp), .val (.int jx)]) X0 hx (hb hby d5_44) rfl rfl rfl ?_
        refine own_iload (pc' := 48) X0 hx (hb hby d5_46) rfl rfl ?_
        refine own_iconst (pc' := 49) X0 hx (1 : Int32) (hb hby d5_48) rfl rfl ?_
        refine own_iadd (pc' := 50) X0 hx (hb hby d5_49) rfl ?_
        obtain ⟨v6, hv6⟩ : ∃ z : Int32, z = (pp + (1 : Int32)) := ⟨_, rfl⟩
        refine own_istoreN (pc' := 51) (l' := #[.val (.ref a1), .val (.int len), .val (.int v6), .val (.int sn), .val (.int pp), .val (.int jx)]) X0 hx (hb hby d5_50) hv6 rfl rfl ?_
        have hv : v6.toInt = ((p' + 1 : Nat) : Int) := by have := own_inc hv6 (by omega) (by omega); omega
        refine own_iload (pc' := 53) X0 hx (hb hby d5_51) rfl rfl ?_
        refine own_if_eq (pt := 62) (pf := 56) X0 hx (hb hby d5_53) rfl (by decide) rfl (fun hc53 => ?_) (fun hc53 => ?_)
        · skip
          refine own_iloadN (pc' := 63) X0 hx (hb hby d5_62) rfl rfl ?_
          refine own_iload (pc' := 65) X0 hx (hb hby d5_63) rfl rfl ?_
          refine own_join (fun jy : Int32 => jy = if jx = 0 then 1 else 0) (fun jy => T0.setTop (mkF m 73 #[.val (.ref a1), .val (.int len), .val (.int v6), .val (.int sn), .val (.int pp), .val (.int jx)] [(.int jy), (.int sn)])) (fun J73 => ?_) (fun jy hjy => ?_)
          · skip
            refine own_if_ne (pt := 72) (pf := 68) X0 hx (hb hby d5_65) rfl (by decide) rfl (fun hc65 => ?_) (fun hc65 => ?_)
            · skip
              refine own_iconst (pc' := 73) X0 hx (0 : Int32) (hb hby d5_72) rfl rfl ?_
              exact J73 (0 : Int32) ((if_neg hc65).symm)
            · skip
              refine own_iconst (pc' := 69) X0 hx (1 : Int32) (hb hby d5_68) rfl rfl ?_
              refine own_goto (pc' := 73) X0 hx (hb hby d5_69) (by decide) rfl ?_
              exact J73 (1 : Int32) ((if_pos hc65).symm)
          · skip
            show own_WP _ _ _ _ _ _ _ (T0.setTop (mkF m 73 #[.val (.ref a1), .val (.int len), .val (.int v6), .val (.int sn), .val (.int pp), .val (.int jx)] [(.int jy), (.int sn)]))
            refine own_ior (pc' := 74) X0 hx (hb hby d5_73) rfl ?_
            obtain ⟨v7, hv7⟩ : ∃ z : Int32, z = (sn ||| jy) := ⟨_, rfl⟩
            refine own_istoreN (pc' := 75) (l' := #[.val (.ref a1), .val (.int len), .val (.int v6), .val (.int v7), .val (.int pp), .val (.int jx)]) X0 hx (hb hby d5_74) hv7 rfl rfl ?_
            refine own_aloadN (pc' := 76) X0 hx (hb hby d5_75) rfl rfl rfl ?_
            refine own_iloadN (pc' := 77) X0 hx (hb hby d5_76) rfl rfl ?_
            refine own_iloadN (pc' := 78) X0 hx (hb hby d5_77) rfl rfl ?_
            refine own_callS (pc' := 81) (W := 0) (y := (⟨"com/example/steerage/steerage/agent/HttpHead", "lineEnd", "([BII)I"⟩ : MethodName)) X0 hx hZ hown (own_w hw 19 rfl) (own_w hw 20 rfl) (own_w hw 17 rfl) (own_w hw 21 rfl) (by decide) (conLE l Z a0 hw a1 v6 len _ kk bs V1 (by omega) hl8) e0 pd2 [(.ref a1), (.int v6), (.int len)] [] rfl rfl rfl (Nat.le_of_eq rfl) (by decide) (by decide) (by rw [hml]; rfl) (hb hby d5_78) (by decide) (by decide) rfl ?_
            intro v8 T8 L8 X8 q8
            obtain ⟨r8, rfl, hr8, rfl, e8⟩ := q8
            show own_WP _ _ _ _ _ _ _ (T8.setTop (mkF m 81 #[.val (.ref a1), .val (.int len), .val (.int v6), .val (.int v7), .val (.int pp), .val (.int jx)] [(.int r8)]))
            refine own_istore (pc' := 83) (l' := #[.val (.ref a1), .val (.int len), .val (.int v6), .val (.int v7), .val (.int r8), .val (.int jx)]) X8 hx (hb hby d5_81) rfl rfl rfl ?_
            refine own_goto (pc' := 12) X8 hx (hb hby d5_83) (by decide) rfl ?_
            have es := (own_estep hp8 hfp hpt hb10 hnolf hsn hR hjx hjy).2 (fun q => q.1 hc53)
            have hvn : v6.toInt.toNat = p' + 1 := by omega
            exact ih _ (by omega) T8 v6 v7 r8 _ X8 e8 rfl (by omega) (by rw [hv7]; exact es.2) (by rw [hv7, hvn]; exact es.1) hr8 (Or.inr ⟨_, rfl⟩)
        · skip
          refine own_iloadN (pc' := 57) X0 hx (hb hby d5_56) rfl rfl ?_
          refine own_if_eq (pt := 62) (pf := 60) X0 hx (hb hby d5_57) rfl (by decide) rfl (fun hc57 => ?_) (fun hc57 => ?_)
          · skip
            refine own_iloadN (pc' := 63) X0 hx (hb hby d5_62) rfl rfl ?_
            refine own_iload (pc' := 65) X0 hx (hb hby d5_63) rfl rfl ?_
            refine own_join (fun jy : Int32 => jy = if jx = 0 then 1 else 0) (fun jy => T0.setTop (mkF m 73 #[.val (.ref a1), .val (.int len), .val (.int v6), .val (.int sn), .val (.int pp), .val (.int jx)] [(.int jy), (.int sn)])) (fun J73 => ?_) (fun jy hjy => ?_)
            · skip
              refine own_if_ne (pt := 72) (pf := 68) X0 hx (hb hby d5_65) rfl (by decide) rfl (fun hc65 => ?_) (fun hc65 => ?_)
              · skip
                refine own_iconst (pc' := 73) X0 hx (0 : Int32) (hb hby d5_72) rfl rfl ?_
                exact J73 (0 : Int32) ((if_neg hc65).symm)
              · skip
                refine own_iconst (pc' := 69) X0 hx (1 : Int32) (hb hby d5_68) rfl rfl ?_
                refine own_goto (pc' := 73) X0 hx (hb hby d5_69) (by decide) rfl ?_
                exact J73 (1 : Int32) ((if_pos hc65).symm)
            · skip
              show own_WP _ _ _ _ _ _ _ (T0.setTop (mkF m 73 #[.val (.ref a1), .val (.int len), .val (.int v6), .val (.int sn), .val (.int pp), .val (.int jx)] [(.int jy), (.int sn)]))
              refine own_ior (pc' := 74) X0 hx (hb hby d5_73) rfl ?_
              obtain ⟨v9, hv9⟩ : ∃ z : Int32, z = (sn ||| jy) := ⟨_, rfl⟩
              refine own_istoreN (pc' := 75) (l' := #[.val (.ref a1), .val (.int len), .val (.int v6), .val (.int v9), .val (.int pp), .val (.int jx)]) X0 hx (hb hby d5_74) hv9 rfl rfl ?_
              refine own_aloadN (pc' := 76) X0 hx (hb hby d5_75) rfl rfl rfl ?_
              refine own_iloadN (pc' := 77) X0 hx (hb hby d5_76) rfl rfl ?_
              refine own_iloadN (pc' := 78) X0 hx (hb hby d5_77) rfl rfl ?_
              refine own_callS (pc' := 81) (W := 0) (y := (⟨"com/example/steerage/steerage/agent/HttpHead", "lineEnd", "([BII)I"⟩ : MethodName)) X0 hx hZ hown (own_w hw 19 rfl) (own_w hw 20 rfl) (own_w hw 17 rfl) (own_w hw 21 rfl) (by decide) (conLE l Z a0 hw a1 v6 len _ kk bs V1 (by omega) hl8) e0 pd2 [(.ref a1), (.int v6), (.int len)] [] rfl rfl rfl (Nat.le_of_eq rfl) (by decide) (by decide) (by rw [hml]; rfl) (hb hby d5_78) (by decide) (by decide) rfl ?_
              intro v10 T10 L10 X10 q10
              obtain ⟨r10, rfl, hr10, rfl, e10⟩ := q10
              show own_WP _ _ _ _ _ _ _ (T10.setTop (mkF m 81 #[.val (.ref a1), .val (.int len), .val (.int v6), .val (.int v9), .val (.int pp), .val (.int jx)] [(.int r10)]))
              refine own_istore (pc' := 83) (l' := #[.val (.ref a1), .val (.int len), .val (.int v6), .val (.int v9), .val (.int r10), .val (.int jx)]) X10 hx (hb hby d5_81) rfl rfl rfl ?_
              refine own_goto (pc' := 12) X10 hx (hb hby d5_83) (by decide) rfl ?_
              have es := (own_estep hp8 hfp hpt hb10 hnolf hsn hR hjx hjy).2 (fun q => q.2 hc57)
              have hvn : v6.toInt.toNat = p' + 1 := by omega
              exact ih _ (by omega) T10 v6 v9 r10 _ X10 e10 rfl (by omega) (by rw [hv9]; exact es.2) (by rw [hv9, hvn]; exact es.1) hr10 (Or.inr ⟨_, rfl⟩)
          · skip
            refine own_iloadN (pc' := 61) X0 hx (hb hby d5_60) rfl rfl ?_
            refine own_retI X0 hx hlk hret (hb hby d5_61) (by decide) (by decide) ?_
            refine ⟨v6, rfl, ?_, rfl, e0⟩
            have es := (own_estep (y := if jx = 0 then 1 else 0) hp8 hfp hpt hb10 hnolf hsn hR hjx rfl).1 hc53 hc57
            rw [hv, es]
theorem ef_conE (m : MethodId) (a1 : Addr) (c1 : Int32) : entryFrame m #[(.ref a1), (.int c1)] 6 = mkF m 0 #[.val (.ref a1), .val (.int c1), .unset, .unset, .unset, .unset] [] := by first | (simp [entryFrame, mkF, argsToLocals, Value.category]; done) | rfl
set_option maxRecDepth 65536 in
set_option maxHeartbeats 4000000 in
theorem conE (l : Launch) (Z : State) (a0 : Array Value) (hw : ∀ d ∈ tables_1, d.before a0 Z = true) (a1 : Addr) (c1 : Int32) (h0 : Heap) (kk : ClassId) (bs : List Int32) (V1 : Arv Z h0 a1 kk .byte 8 (bs.map Value.int) (.int 0)) (hl0 : 0 ≤ c1.toInt) (hl8 : c1.toInt ≤ 8) :
    own_Con l Z (⟨"com/example/steerage/steerage/agent/HttpHead", "end", "([BI)I"⟩ : MethodName) prog_23_method_3_code 6 (some .int) ({ frames := 1, cells := 0, slots := 0, locals := 15 } : Room) #[(.ref a1), (.int c1)] h0 (fun v h L => ∃ z : Int32, v = some (.int z) ∧ (z.toInt = own_A (own_at bs) c1.toInt.toNat 8 0 0 false) ∧ L = [] ∧ h = h0) := by
  refine own_Con_of pn_5 ?_
  intro p e s m below meth c s₁ X0 hx hby hml hret hlk hnm hown hZ e0
  have hown : s.vm.findClass "com/example/steerage/steerage/agent/HttpHead" = some m.cls := hown
  have hml : c.maxLocals = 6 := hml
  show own_WP _ _ _ _ _ _ _ (s₁.setTop (entryFrame m #[(.ref a1), (.int c1)] 6))
  rw [ef_conE m a1 c1]
  refine own_iconst (pc' := 1) X0 hx (0 : Int32) (hb hby d5_0) rfl rfl ?_
  refine own_istoreN (pc' := 2) (l' := #[.val (.ref a1), .val (.int c1), .val (.int (0 : Int32)), .unset, .unset, .unset]) X0 hx (hb hby d5_1) rfl rfl rfl ?_
  refine own_iconst (pc' := 3) X0 hx (0 : Int32) (hb hby d5_2) rfl rfl ?_
  refine own_istoreN (pc' := 4) (l' := #[.val (.ref a1), .val (.int c1), .val (.int (0 : Int32)), .val (.int (0 : Int32)), .unset, .unset]) X0 hx (hb hby d5_3) rfl rfl rfl ?_
  refine own_aloadN (pc' := 5) X0 hx (hb hby d5_4) rfl rfl rfl ?_
  refine own_iloadN (pc' := 6) X0 hx (hb hby d5_5) rfl rfl ?_
  refine own_iloadN (pc' := 7) X0 hx (hb hby d5_6) rfl rfl ?_
  refine own_callS (pc' := 10) (W := 0) (y := (⟨"com/example/steerage/steerage/agent/HttpHead", "lineEnd", "([BII)I"⟩ : MethodName)) X0 hx hZ hown (own_w hw 19 rfl) (own_w hw 20 rfl) (own_w hw 17 rfl) (own_w hw 21 rfl) (by decide) (conLE l Z a0 hw a1 (0 : Int32) c1 _ kk bs V1 (by decide) hl8) e0 pd2 [(.ref a1), (.int (0 : Int32)), (.int c1)] [] rfl rfl rfl (Nat.le_of_eq rfl) (by decide) (by decide) (by rw [hml]; rfl) (hb hby d5_7) (by decide) (by decide) rfl ?_
  intro v1 T1 L1 X1 q1
  obtain ⟨r1, rfl, hr1, rfl, e1⟩ := q1
  show own_WP _ _ _ _ _ _ _ (T1.setTop (mkF m 10 #[.val (.ref a1), .val (.int c1), .val (.int (0 : Int32)), .val (.int (0 : Int32)), .unset, .unset] [(.int r1)]))
  refine own_istore (pc' := 12) (l' := #[.val (.ref a1), .val (.int c1), .val (.int (0 : Int32)), .val (.int (0 : Int32)), .val (.int r1), .unset]) X1 hx (hb hby d5_10) rfl rfl rfl ?_
  exact lpE hw hx hby hml hret hlk hown hZ a1 kk bs V1 c1 hl0 hl8 _ _ T1 0 0 r1 _ X1 e1 rfl (by decide) (Or.inl rfl) rfl hr1 (Or.inl rfl)
theorem pn_0 : plainFor x = true := plainFor_of_name (by first | (simp [plainName, overriddenIn]; done) | decide +kernel)
theorem ef_con0 (m : MethodId) (p0 : Int32) (p1 : Int64) (p2 : Int32) : entryFrame m #[(.int p0), (.long p1), (.int p2)] 8 = mkF m 0 #[.val (.int p0), .val (.long p1), .second, .val (.int p2), .unset, .unset, .unset, .unset] [] := by first | (simp [entryFrame, mkF, argsToLocals, Value.category]; done) | rfl
theorem pd3 : parseMethodDescriptor "(IJI)B" = some ⟨[.int, .long, .int], some .byte⟩ := by decide +kernel
theorem pd4 : parseMethodDescriptor "([BI)I" = some ⟨[(.array .byte), .int], some .int⟩ := by decide +kernel
set_option maxRecDepth 65536 in
set_option maxHeartbeats 4000000 in
theorem con0 (l : Launch) (Z : State) (a0 : Array Value) (hw : ∀ d ∈ tables_1, d.before a0 Z = true) (p0 : Int32) (p1 : Int64) (p2 : Int32) (h0 : Heap) (n0 : Nat) (Z0 : n0 ≤ h0.size) :
    own_Con l Z x code maxLocals ret room_1 #[(.int p0), (.long p1), (.int p2)] h0 (fun v h L => v = some (.int 1) ∧ Fr n0 L) := by
  refine own_Con_of pn_0 ?_
  intro p e s m below meth c s₁ X0 hx hby hml hret hlk hnm hown hZ e0
  have hown : s.vm.findClass "com/example/steerage/steerage/agent/HttpHeadEndPinLaw" = some m.cls := hown
  have hml : c.maxLocals = 8 := hml
  have hret : meth.sig.returnType = (some .boolean) := hret
  have N0 := Fr.nil n0
  show own_WP _ _ _ _ _ _ _ (s₁.setTop (entryFrame m #[(.int p0), (.long p1), (.int p2)] 8))
  rw [ef_con0 m p0 p1 p2]
  refine own_bipush (pc' := 2) X0 hx (8 : Int32) (hb hby at_0) rfl rfl ?_
  refine own_newP (pc' := 4) (cap := 8) X0 hx hZ (own_w hw 0 rfl) e0 (hb hby at_2) (by decide) (by decide) (by decide) (by decide) (by decide) rfl ?_
  intro T1 h1 k1 b1 g1 X1 e1 E1 A1
  have g_b1 : n0 ≤ b1 := Nat.le_trans Z0 (Nat.le_of_eq g1.symm)
  have z1 : n0 ≤ h1.size := Nat.le_trans Z0 E1.1
  have V1 : Arv Z h1 b1 k1 .byte (8 : Int32) [(.int (0 : Int32)), (.int (0 : Int32)), (.int (0 : Int32)), (.int (0 : Int32)), (.int (0 : Int32)), (.int (0 : Int32)), (.int (0 : Int32)), (.int (0 : Int32))] (.int (0 : Int32)) := (Arv.new A1 (by decide)).pad (pad_rep [] (.int (0 : Int32)) 8)
  refine own_astore (pc' := 6) (l' := #[.val (.int p0), .val (.long p1), .second, .val (.int p2), .val (.ref b1), .unset, .unset, .unset]) X1 hx (hb hby at_4) rfl rfl rfl ?_
  refine own_aload (pc' := 8) X1 hx (hb hby at_6) rfl rfl rfl ?_
  refine own_iconst (pc' := 9) X1 hx (0 : Int32) (hb hby at_8) rfl rfl ?_
  refine own_iloadN (pc' := 10) X1 hx (hb hby at_9) rfl rfl ?_
  refine own_lloadN (pc' := 11) X1 hx (hb hby at_10) rfl rfl ?_
  refine own_iconst (pc' := 12) X1 hx (0 : Int32) (hb hby at_11) rfl rfl ?_
  refine own_callS (pc' := 15) (W := 2) (y := (⟨"com/example/steerage/steerage/agent/HttpHeadEndPinLaw", "pick", "(IJI)B"⟩ : MethodName)) X1 hx hZ hown (own_w hw 1 rfl) (own_w hw 2 rfl) (own_w hw 3 rfl) (own_w hw 4 rfl) (by decide) (conP l Z a0 hw p0 p1 (0 : Int32) _ ) e1 pd3 [(.int p0), (.long p1), (.int (0 : Int32))] [(.int (0 : Int32)), (.ref b1)] rfl rfl rfl (Nat.le_of_eq rfl) (by decide) (by decide) (by rw [hml]; rfl) (hb hby at_12) (by decide) (by decide) rfl ?_
  intro v2 T2 L2 X2 q2
  obtain ⟨r2, rfl, hr2, rfl, e2⟩ := q2
  have N2 := Fr.app N0 (Fr.nil n0)
  show own_WP _ _ _ _ _ _ _ (T2.setTop (mkF m 15 #[.val (.int p0), .val (.long p1), .second, .val (.int p2), .val (.ref b1), .unset, .unset, .unset] [(.int r2), (.int (0 : Int32)), (.ref b1)]))
  refine own_bastore (pc' := 16) X2 hx hZ e2 V1 ⟨by decide, by decide⟩ 0 rfl (Nat.le_of_ble_eq_true rfl) (hb hby at_15) rfl ?_
  intro T3 h3 X3 e3 W3 V3
  have z3 : n0 ≤ h3.size := Nat.le_trans z1 (Keep.of_wr W3).1
  have V3 : Arv Z h3 b1 k1 .byte (8 : Int32) [(.int (nar .byte r2)), (.int (0 : Int32)), (.int (0 : Int32)), (.int (0 : Int32)), (.int (0 : Int32)), (.int (0 : Int32)), (.int (0 : Int32)), (.int (0 : Int32))] (.int (0 : Int32)) := V3
  have N3 := Fr.snoc X3 N2 g_b1
  rw [hr2] at V3
  refine own_aload (pc' := 18) X3 hx (hb hby at_16) rfl rfl rfl ?_
  refine own_iconst (pc' := 19) X3 hx (1 : Int32) (hb hby at_18) rfl rfl ?_
  refine own_iloadN (pc' := 20) X3 hx (hb hby at_19) rfl rfl ?_
  refine own_lloadN (pc' := 21) X3 hx (hb hby at_20) rfl rfl ?_
  refine own_iconst (pc' := 22) X3 hx (1 : Int32) (hb hby at_21) rfl rfl ?_
  refine own_callS (pc' := 25) (W := 2) (y := (⟨"com/example/steerage/steerage/agent/HttpHeadEndPinLaw", "pick", "(IJI)B"⟩ : MethodName)) X3 hx hZ hown (own_w hw 1 rfl) (own_w hw 2 rfl) (own_w hw 3 rfl) (own_w hw 4 rfl) (by decide) (conP l Z a0 hw p0 p1 (1 : Int32) _ ) e3 pd3 [(.int p0), (.long p1), (.int (1 : Int32))] [(.int (1 : Int32)), (.ref b1)] rfl rfl rfl (Nat.le_of_eq rfl) (by decide) (by decide) (by rw [hml]; rfl) (hb hby at_22) (by decide) (by decide) rfl ?_
  intro v4 T4 L4 X4 q4
  obtain ⟨r4, rfl, hr4, rfl, e4⟩ := q4
  have N4 := Fr.app N3 (Fr.nil n0)
  show own_WP _ _ _ _ _ _ _ (T4.setTop (mkF m 25 #[.val (.int p0), .val (.long p1), .second, .val (.int p2), .val (.ref b1), .unset, .unset, .unset] [(.int r4), (.int (1 : Int32)), (.ref b1)]))
  refine own_bastore (pc' := 26) X4 hx hZ e4 V3 ⟨by decide, by decide⟩ 1 rfl (Nat.le_of_ble_eq_true rfl) (hb hby at_25) rfl ?_
  intro T5 h5 X5 e5 W5 V5
  have z5 : n0 ≤ h5.size := Nat.le_trans z3 (Keep.of_wr W5).1
  have V5 : Arv Z h5 b1 k1 .byte (8 : Int32) [(.int r2), (.int (nar .byte r4)), (.int (0 : Int32)), (.int (0 : Int32)), (.int (0 : Int32)), (.int (0 : Int32)), (.int (0 : Int32)), (.int (0 : Int32))] (.int (0 : Int32)) := V5
  have N5 := Fr.snoc X5 N4 g_b1
  rw [hr4] at V5
  refine own_aload (pc' := 28) X5 hx (hb hby at_26) rfl rfl rfl ?_
  refine own_iconst (pc' := 29) X5 hx (2 : Int32) (hb hby at_28) rfl rfl ?_
  refine own_iloadN (pc' := 30) X5 hx (hb hby at_29) rfl rfl ?_
  refine own_lloadN (pc' := 31) X5 hx (hb hby at_30) rfl rfl ?_
  refine own_iconst (pc' := 32) X5 hx (2 : Int32) (hb hby at_31) rfl rfl ?_
  refine own_callS (pc' := 35) (W := 2) (y := (⟨"com/example/steerage/steerage/agent/HttpHeadEndPinLaw", "pick", "(IJI)B"⟩ : MethodName)) X5 hx hZ hown (own_w hw 1 rfl) (own_w hw 2 rfl) (own_w hw 3 rfl) (own_w hw 4 rfl) (by decide) (conP l Z a0 hw p0 p1 (2 : Int32) _ ) e5 pd3 [(.int p0), (.long p1), (.int (2 : Int32))] [(.int (2 : Int32)), (.ref b1)] rfl rfl rfl (Nat.le_of_eq rfl) (by decide) (by decide) (by rw [hml]; rfl) (hb hby at_32) (by decide) (by decide) rfl ?_
  intro v6 T6 L6 X6 q6
  obtain ⟨r6, rfl, hr6, rfl, e6⟩ := q6
  have N6 := Fr.app N5 (Fr.nil n0)
  show own_WP _ _ _ _ _ _ _ (T6.setTop (mkF m 35 #[.val (.int p0), .val (.long p1), .second, .val (.int p2), .val (.ref b1), .unset, .unset, .unset] [(.int r6), (.int (2 : Int32)), (.ref b1)]))
  refine own_bastore (pc' := 36) X6 hx hZ e6 V5 ⟨by decide, by decide⟩ 2 rfl (Nat.le_of_ble_eq_true rfl) (hb hby at_35) rfl ?_
  intro T7 h7 X7 e7 W7 V7
  have z7 : n0 ≤ h7.size := Nat.le_trans z5 (Keep.of_wr W7).1
  have V7 : Arv Z h7 b1 k1 .byte (8 : Int32) [(.int r2), (.int r4), (.int (nar .byte r6)), (.int (0 : Int32)), (.int (0 : Int32)), (.int (0 : Int32)), (.int (0 : Int32)), (.int (0 : Int32))] (.int (0 : Int32)) := V7
  have N7 := Fr.snoc X7 N6 g_b1
  rw [hr6] at V7
  refine own_aload (pc' := 38) X7 hx (hb hby at_36) rfl rfl rfl ?_
  refine own_iconst (pc' := 39) X7 hx (3 : Int32) (hb hby at_38) rfl rfl ?_
  refine own_iloadN (pc' := 40) X7 hx (hb hby at_39) rfl rfl ?_
  refine own_lloadN (pc' := 41) X7 hx (hb hby at_40) rfl rfl ?_
  refine own_iconst (pc' := 42) X7 hx (3 : Int32) (hb hby at_41) rfl rfl ?_
  refine own_callS (pc' := 45) (W := 2) (y := (⟨"com/example/steerage/steerage/agent/HttpHeadEndPinLaw", "pick", "(IJI)B"⟩ : MethodName)) X7 hx hZ hown (own_w hw 1 rfl) (own_w hw 2 rfl) (own_w hw 3 rfl) (own_w hw 4 rfl) (by decide) (conP l Z a0 hw p0 p1 (3 : Int32) _ ) e7 pd3 [(.int p0), (.long p1), (.int (3 : Int32))] [(.int (3 : Int32)), (.ref b1)] rfl rfl rfl (Nat.le_of_eq rfl) (by decide) (by decide) (by rw [hml]; rfl) (hb hby at_42) (by decide) (by decide) rfl ?_
  intro v8 T8 L8 X8 q8
  obtain ⟨r8, rfl, hr8, rfl, e8⟩ := q8
  have N8 := Fr.app N7 (Fr.nil n0)
  show own_WP _ _ _ _ _ _ _ (T8.setTop (mkF m 45 #[.val (.int p0), .val (.long p1), .second, .val (.int p2), .val (.ref b1), .unset, .unset, .unset] [(.int r8), (.int (3 : Int32)), (.ref b1)]))
  refine own_bastore (pc' := 46) X8 hx hZ e8 V7 ⟨by decide, by decide⟩ 3 rfl (Nat.le_of_ble_eq_true rfl) (hb hby at_45) rfl ?_
  intro T9 h9 X9 e9 W9 V9
  have z9 : n0 ≤ h9.size := Nat.le_trans z7 (Keep.of_wr W9).1
  have V9 : Arv Z h9 b1 k1 .byte (8 : Int32) [(.int r2), (.int r4), (.int r6), (.int (nar .byte r8)), (.int (0 : Int32)), (.int (0 : Int32)), (.int (0 : Int32)), (.int (0 : Int32))] (.int (0 : Int32)) := V9
  have N9 := Fr.snoc X9 N8 g_b1
  rw [hr8] at V9
  refine own_aload (pc' := 48) X9 hx (hb hby at_46) rfl rfl rfl ?_
  refine own_iconst (pc' := 49) X9 hx (4 : Int32) (hb hby at_48) rfl rfl ?_
  refine own_iloadN (pc' := 50) X9 hx (hb hby at_49) rfl rfl ?_
  refine own_lloadN (pc' := 51) X9 hx (hb hby at_50) rfl rfl ?_
  refine own_iconst (pc' := 52) X9 hx (4 : Int32) (hb hby at_51) rfl rfl ?_
  refine own_callS (pc' := 55) (W := 2) (y := (⟨"com/example/steerage/steerage/agent/HttpHeadEndPinLaw", "pick", "(IJI)B"⟩ : MethodName)) X9 hx hZ hown (own_w hw 1 rfl) (own_w hw 2 rfl) (own_w hw 3 rfl) (own_w hw 4 rfl) (by decide) (conP l Z a0 hw p0 p1 (4 : Int32) _ ) e9 pd3 [(.int p0), (.long p1), (.int (4 : Int32))] [(.int (4 : Int32)), (.ref b1)] rfl rfl rfl (Nat.le_of_eq rfl) (by decide) (by decide) (by rw [hml]; rfl) (hb hby at_52) (by decide) (by decide) rfl ?_
  intro v10 T10 L10 X10 q10
  obtain ⟨r10, rfl, hr10, rfl, e10⟩ := q10
  have N10 := Fr.app N9 (Fr.nil n0)
  show own_WP _ _ _ _ _ _ _ (T10.setTop (mkF m 55 #[.val (.int p0), .val (.long p1), .second, .val (.int p2), .val (.ref b1), .unset, .unset, .unset] [(.int r10), (.int (4 : Int32)), (.ref b1)]))
  refine own_bastore (pc' := 56) X10 hx hZ e10 V9 ⟨by decide, by decide⟩ 4 rfl (Nat.le_of_ble_eq_true rfl) (hb hby at_55) rfl ?_
  intro T11 h11 X11 e11 W11 V11
  have z11 : n0 ≤ h11.size := Nat.le_trans z9 (Keep.of_wr W11).1
  have V11 : Arv Z h11 b1 k1 .byte (8 : Int32) [(.int r2), (.int r4), (.int r6), (.int r8), (.int (nar .byte r10)), (.int (0 : Int32)), (.int (0 : Int32)), (.int (0 : Int32))] (.int (0 : Int32)) := V11
  have N11 := Fr.snoc X11 N10 g_b1
  rw [hr10] at V11
  refine own_aload (pc' := 58) X11 hx (hb hby at_56) rfl rfl rfl ?_
  refine own_iconst (pc' := 59) X11 hx (5 : Int32) (hb hby at_58) rfl rfl ?_
  refine own_iloadN (pc' := 60) X11 hx (hb hby at_59) rfl rfl ?_
  refine own_lloadN (pc' := 61) X11 hx (hb hby at_60) rfl rfl ?_
  refine own_iconst (pc' := 62) X11 hx (5 : Int32) (hb hby at_61) rfl rfl ?_
  refine own_callS (pc' := 65) (W := 2) (y := (⟨"com/example/steerage/steerage/agent/HttpHeadEndPinLaw", "pick", "(IJI)B"⟩ : MethodName)) X11 hx hZ hown (own_w hw 1 rfl) (own_w hw 2 rfl) (own_w hw 3 rfl) (own_w hw 4 rfl) (by decide) (conP l Z a0 hw p0 p1 (5 : Int32) _ ) e11 pd3 [(.int p0), (.long p1), (.int (5 : Int32))] [(.int (5 : Int32)), (.ref b1)] rfl rfl rfl (Nat.le_of_eq rfl) (by decide) (by decide) (by rw [hml]; rfl) (hb hby at_62) (by decide) (by decide) rfl ?_
  intro v12 T12 L12 X12 q12
  obtain ⟨r12, rfl, hr12, rfl, e12⟩ := q12
  have N12 := Fr.app N11 (Fr.nil n0)
  show own_WP _ _ _ _ _ _ _ (T12.setTop (mkF m 65 #[.val (.int p0), .val (.long p1), .second, .val (.int p2), .val (.ref b1), .unset, .unset, .unset] [(.int r12), (.int (5 : Int32)), (.ref b1)]))
  refine own_bastore (pc' := 66) X12 hx hZ e12 V11 ⟨by decide, by decide⟩ 5 rfl (Nat.le_of_ble_eq_true rfl) (hb hby at_65) rfl ?_
  intro T13 h13 X13 e13 W13 V13
  have z13 : n0 ≤ h13.size := Nat.le_trans z11 (Keep.of_wr W13).1
  have V13 : Arv Z h13 b1 k1 .byte (8 : Int32) [(.int r2), (.int r4), (.int r6), (.int r8), (.int r10), (.int (nar .byte r12)), (.int (0 : Int32)), (.int (0 : Int32))] (.int (0 : Int32)) := V13
  have N13 := Fr.snoc X13 N12 g_b1
  rw [hr12] at V13
  refine own_aload (pc' := 68) X13 hx (hb hby at_66) rfl rfl rfl ?_
  refine own_bipush (pc' := 70) X13 hx (6 : Int32) (hb hby at_68) rfl rfl ?_
  refine own_iloadN (pc' := 71) X13 hx (hb hby at_70) rfl rfl ?_
  refine own_lloadN (pc' := 72) X13 hx (hb hby at_71) rfl rfl ?_
  refine own_bipush (pc' := 74) X13 hx (6 : Int32) (hb hby at_72) rfl rfl ?_
  refine own_callS (pc' := 77) (W := 2) (y := (⟨"com/example/steerage/steerage/agent/HttpHeadEndPinLaw", "pick", "(IJI)B"⟩ : MethodName)) X13 hx hZ hown (own_w hw 1 rfl) (own_w hw 2 rfl) (own_w hw 3 rfl) (own_w hw 4 rfl) (by decide) (conP l Z a0 hw p0 p1 (6 : Int32) _ ) e13 pd3 [(.int p0), (.long p1), (.int (6 : Int32))] [(.int (6 : Int32)), (.ref b1)] rfl rfl rfl (Nat.le_of_eq rfl) (by decide) (by decide) (by rw [hml]; rfl) (hb hby at_74) (by decide) (by decide) rfl ?_
  intro v14 T14 L14 X14 q14
  obtain ⟨r14, rfl, hr14, rfl, e14⟩ := q14
  have N14 := Fr.app N13 (Fr.nil n0)
  show own_WP _ _ _ _ _ _ _ (T14.setTop (mkF m 77 #[.val (.int p0), .val (.long p1), .second, .val (.int p2), .val (.ref b1), .unset, .unset, .unset] [(.int r14), (.int (6 : Int32)), (.ref b1)]))
  refine own_bastore (pc' := 78) X14 hx hZ e14 V13 ⟨by decide, by decide⟩ 6 rfl (Nat.le_of_ble_eq_true rfl) (hb hby at_77) rfl ?_
  intro T15 h15 X15 e15 W15 V15
  have z15 : n0 ≤ h15.size := Nat.le_trans z13 (Keep.of_wr W15).1
  have V15 : Arv Z h15 b1 k1 .byte (8 : Int32) [(.int r2), (.int r4), (.int r6), (.int r8), (.int r10), (.int r12), (.int (nar .byte r14)), (.int (0 : Int32))] (.int (0 : Int32)) := V15
  have N15 := Fr.snoc X15 N14 g_b1
  rw [hr14] at V15
  refine own_aload (pc' := 80) X15 hx (hb hby at_78) rfl rfl rfl ?_
  refine own_bipush (pc' := 82) X15 hx (7 : Int32) (hb hby at_80) rfl rfl ?_
  refine own_iloadN (pc' := 83) X15 hx (hb hby at_82) rfl rfl ?_
  refine own_lloadN (pc' := 84) X15 hx (hb hby at_83) rfl rfl ?_
  refine own_bipush (pc' := 86) X15 hx (7 : Int32) (hb hby at_84) rfl rfl ?_
  refine own_callS (pc' := 89) (W := 2) (y := (⟨"com/example/steerage/steerage/agent/HttpHeadEndPinLaw", "pick", "(IJI)B"⟩ : MethodName)) X15 hx hZ hown (own_w hw 1 rfl) (own_w hw 2 rfl) (own_w hw 3 rfl) (own_w hw 4 rfl) (by decide) (conP l Z a0 hw p0 p1 (7 : Int32) _ ) e15 pd3 [(.int p0), (.long p1), (.int (7 : Int32))] [(.int (7 : Int32)), (.ref b1)] rfl rfl rfl (Nat.le_of_eq rfl) (by decide) (by decide) (by rw [hml]; rfl) (hb hby at_86) (by decide) (by decide) rfl ?_
  intro v16 T16 L16 X16 q16
  obtain ⟨r16, rfl, hr16, rfl, e16⟩ := q16
  have N16 := Fr.app N15 (Fr.nil n0)
  show own_WP _ _ _ _ _ _ _ (T16.setTop (mkF m 89 #[.val (.int p0), .val (.long p1), .second, .val (.int p2), .val (.ref b1), .unset, .unset, .unset] [(.int r16), (.int (7 : Int32)), (.ref b1)]))
  refine own_bastore (pc' := 90) X16 hx hZ e16 V15 ⟨by decide, by decide⟩ 7 rfl (Nat.le_of_ble_eq_true rfl) (hb hby at_89) rfl ?_
  intro T17 h17 X17 e17 W17 V17
  have z17 : n0 ≤ h17.size := Nat.le_trans z15 (Keep.of_wr W17).1
  have V17 : Arv Z h17 b1 k1 .byte (8 : Int32) [(.int r2), (.int r4), (.int r6), (.int r8), (.int r10), (.int r12), (.int r14), (.int (nar .byte r16))] (.int (0 : Int32)) := V17
  have N17 := Fr.snoc X17 N16 g_b1
  rw [hr16] at V17
  refine own_iloadN (pc' := 91) X17 hx (hb hby at_90) rfl rfl ?_
  refine own_ldcInt (pc' := 93) X17 hx hZ hown (own_w hw 5 rfl) (hb hby at_91) rfl ?_
  refine own_iand (pc' := 94) X17 hx (hb hby at_93) rfl ?_
  refine own_bipush (pc' := 96) X17 hx (9 : Int32) (hb hby at_94) rfl rfl ?_
  refine own_irem (pc' := 97) X17 hx (hb hby at_96) (by decide) rfl ?_
  obtain ⟨v18, hv18⟩ : ∃ z : Int32, z = ((p2 &&& (2147483647 : Int32)) % (9 : Int32)) := ⟨_, rfl⟩
  refine own_istore (pc' := 99) (l' := #[.val (.int p0), .val (.long p1), .second, .val (.int p2), .val (.ref b1), .val (.int v18), .unset, .unset]) X17 hx (hb hby at_97) hv18 rfl rfl ?_
  refine own_iconst (pc' := 100) X17 hx (-1 : Int32) (hb hby at_99) rfl rfl ?_
  refine own_istore (pc' := 102) (l' := #[.val (.int p0), .val (.long p1), .second, .val (.int p2), .val (.ref b1), .val (.int v18), .val (.int (-1 : Int32)), .unset]) X17 hx (hb hby at_100) rfl rfl rfl ?_
  refine own_iconst (pc' := 103) X17 hx (0 : Int32) (hb hby at_102) rfl rfl ?_
  refine own_istore (pc' := 105) (l' := #[.val (.int p0), .val (.long p1), .second, .val (.int p2), .val (.ref b1), .val (.int v18), .val (.int (-1 : Int32)), .val (.int (0 : Int32))]) X17 hx (hb hby at_103) rfl rfl rfl ?_
  refine own_iload (pc' := 107) X17 hx (hb hby at_105) rfl rfl ?_
  have hl := own_nine _ _ hv18
  have hinv := own_Inv0 (own_at [r2, r4, r6, r8, r10, r12, r14, r16]) v18.toInt.toNat
  obtain ⟨RR, hRR⟩ : ∃ z, z = own_A (own_at [r2, r4, r6, r8, r10, r12, r14, r16]) v18.toInt.toNat 8 0 0 false := ⟨_, rfl⟩
  rw [← hRR] at hinv
  refine own_join (fun x : State × Int32 × Int32 => ∃ L', Stand p l e room_1 s m #[(.int p0), (.long p1), (.int p2)] below meth c x.1 L' 1 8 ∧ Fr n0 L' ∧ x.1.heap = h17 ∧ own_Inv (own_at [r2, r4, r6, r8, r10, r12, r14, r16]) v18.toInt.toNat RR 1 x.2.1 x.2.2) (fun x => x.1.setTop (mkF m 143 #[.val (.int p0), .val (.long p1), .second, .val (.int p2), .val (.ref b1), .val (.int v18), .val (.int x.2.1), .val (.int x.2.2)] [])) (fun J143 => ?_) (fun x hx143 => ?_)
  · skip
    refine own_if_ge (pt := 143) (pf := 110) X17 hx (hb hby at_107) rfl (by decide) rfl (fun hc107 => absurd (by decide) hc107) (fun hc107 => ?_)
    refine own_iload (pc' := 112) X17 hx (hb hby at_110) rfl rfl ?_
    refine own_if_eq (pt := 129) (pf := 115) X17 hx (hb hby at_112) rfl (by decide) rfl (fun hc112 => ?_) (fun hc112 => absurd (by decide) hc112)
    refine own_aload (pc' := 131) X17 hx (hb hby at_129) rfl rfl rfl ?_
    refine own_iload (pc' := 133) X17 hx (hb hby at_131) rfl rfl ?_
    refine own_iconst (pc' := 134) X17 hx (0 : Int32) (hb hby at_133) rfl rfl ?_
    refine own_callS (pc' := 137) (W := 0) (y := (⟨"com/example/steerage/steerage/agent/HttpHeadEndPinLaw", "full", "([BII)Z"⟩ : MethodName)) X17 hx hZ hown (own_w hw 6 rfl) (own_w hw 7 rfl) (own_w hw 3 rfl) (own_w hw 8 rfl) (by decide) (conF0 l Z a0 hw b1 v18 _ _ [r2, r4, r6, r8, r10, r12, r14, r16] V17 hl.1) e17 pd0 [(.ref b1), (.int v18), (.int (0 : Int32))] [] rfl rfl rfl (Nat.le_of_eq rfl) (by decide) (by decide) (by rw [hml]; rfl) (hb hby at_134) (by decide) (by decide) rfl ?_
    intro v19 T19 L19 X19 q19
    obtain ⟨r19, rfl, hr19, rfl, e19⟩ := q19
    have N19 := Fr.app N17 (Fr.nil n0)
    show own_WP _ _ _ _ _ _ _ (T19.setTop (mkF m 137 #[.val (.int p0), .val (.long p1), .second, .val (.int p2), .val (.ref b1), .val (.int v18), .val (.int (-1 : Int32)), .val (.int (0 : Int32))] [(.int r19)]))
    refine own_if_eq (pt := 143) (pf := 140) X19 hx (hb hby at_137) rfl (by decide) rfl (fun hc137 => ?_) (fun hc137 => ?_)
    · skip
      exact J143 ⟨T19, (-1 : Int32), (0 : Int32)⟩ ⟨_, X19, N19, e19, by { have qf := own_bb0 hr19 hc137; have st := (own_InvStep (k := 1) (by decide) (by decide) hinv hc107).2 (fun q => q.1 hc112); rw [if_neg qf] at st; exact st }⟩
    · skip
      refine own_iconst (pc' := 141) X19 hx (1 : Int32) (hb hby at_140) rfl rfl ?_
      refine own_istore (pc' := 143) (l' := #[.val (.int p0), .val (.long p1), .second, .val (.int p2), .val (.ref b1), .val (.int v18), .val (.int (-1 : Int32)), .val (.int (1 : Int32))]) X19 hx (hb hby at_141) rfl rfl rfl ?_
      exact J143 ⟨T19, (-1 : Int32), (1 : Int32)⟩ ⟨_, X19, N19, e19, by { have qf := own_bb1 hr19 hc137; have st := (own_InvStep (k := 1) (by decide) (by decide) hinv hc107).2 (fun q => q.1 hc112); rw [if_pos qf] at st; exact st }⟩
  · obtain ⟨T20, je0, jz0⟩ := x
    obtain ⟨L20, X20, N20, e20, hj143⟩ := hx143
    have hj143 : own_Inv (own_at [r2, r4, r6, r8, r10, r12, r14, r16]) v18.toInt.toNat RR 1 je0 jz0 := hj143
    have e20 : T20.heap = h17 := e20
    show own_WP _ _ _ _ _ _ _ (T20.setTop (mkF m 143 #[.val (.int p0), .val (.long p1), .second, .val (.int p2), .val (.ref b1), .val (.int v18), .val (.int je0), .val (.int jz0)] []))
    refine own_iload (pc' := 145) X20 hx (hb hby at_143) rfl rfl ?_
    refine own_join (fun x : State × Int32 × Int32 => ∃ L', Stand p l e room_1 s m #[(.int p0), (.long p1), (.int p2)] below meth c x.1 L' 1 8 ∧ Fr n0 L' ∧ x.1.heap = h17 ∧ own_Inv (own_at [r2, r4, r6, r8, r10, r12, r14, r16]) v18.toInt.toNat RR 2 x.2.1 x.2.2) (fun x => x.1.setTop (mkF m 181 #[.val (.int p0), .val (.long p1), .second, .val (.int p2), .val (.ref b1), .val (.int v18), .val (.int x.2.1), .val (.int x.2.2)] [])) (fun J181 => ?_) (fun x hx181 => ?_)
    · skip
      refine own_if_ge (pt := 181) (pf := 148) X20 hx (hb hby at_145) rfl (by decide) rfl (fun hc145 => ?_) (fun hc145 => ?_)
      · skip
        exact J181 ⟨T20, je0, jz0⟩ ⟨_, X20, N20, e20, own_InvKeep hj143 hc145 _⟩
      · skip
        refine own_iload (pc' := 150) X20 hx (hb hby at_148) rfl rfl ?_
        refine own_if_eq (pt := 167) (pf := 153) X20 hx (hb hby at_150) rfl (by decide) rfl (fun hc150 => ?_) (fun hc150 => ?_)
        · skip
          refine own_aload (pc' := 169) X20 hx (hb hby at_167) rfl rfl rfl ?_
          refine own_iload (pc' := 171) X20 hx (hb hby at_169) rfl rfl ?_
          refine own_iconst (pc' := 172) X20 hx (1 : Int32) (hb hby at_171) rfl rfl ?_
          refine own_callS (pc' := 175) (W := 0) (y := (⟨"com/example/steerage/steerage/agent/HttpHeadEndPinLaw", "full", "([BII)Z"⟩ : MethodName)) X20 hx hZ hown (own_w hw 6 rfl) (own_w hw 7 rfl) (own_w hw 3 rfl) (own_w hw 8 rfl) (by decide) (conF1 l Z a0 hw b1 v18 _ _ [r2, r4, r6, r8, r10, r12, r14, r16] V17 hl.1) e20 pd0 [(.ref b1), (.int v18), (.int (1 : Int32))] [] rfl rfl rfl (Nat.le_of_eq rfl) (by decide) (by decide) (by rw [hml]; rfl) (hb hby at_172) (by decide) (by decide) rfl ?_
          intro v21 T21 L21 X21 q21
          obtain ⟨r21, rfl, hr21, rfl, e21⟩ := q21
          have N21 := Fr.app N20 (Fr.nil n0)
          show own_WP _ _ _ _ _ _ _ (T21.setTop (mkF m 175 #[.val (.int p0), .val (.long p1), .second, .val (.int p2), .val (.ref b1), .val (.int v18), .val (.int je0), .val (.int jz0)] [(.int r21)]))
          refine own_if_eq (pt := 181) (pf := 178) X21 hx (hb hby at_175) rfl (by decide) rfl (fun hc175 => ?_) (fun hc175 => ?_)
          · skip
            exact J181 ⟨T21, je0, jz0⟩ ⟨_, X21, N21, e21, by { have qf := own_bb0 hr21 hc175; have st := (own_InvStep (k := 2) (by decide) (by decide) hj143 hc145).2 (fun q => q.1 hc150); rw [if_neg qf] at st; exact st }⟩
          · skip
            refine own_iconst (pc' := 179) X21 hx (1 : Int32) (hb hby at_178) rfl rfl ?_
            refine own_istore (pc' := 181) (l' := #[.val (.int p0), .val (.long p1), .second, .val (.int p2), .val (.ref b1), .val (.int v18), .val (.int je0), .val (.int (1 : Int32))]) X21 hx (hb hby at_179) rfl rfl rfl ?_
            exact J181 ⟨T21, je0, (1 : Int32)⟩ ⟨_, X21, N21, e21, by { have qf := own_bb1 hr21 hc175; have st := (own_InvStep (k := 2) (by decide) (by decide) hj143 hc145).2 (fun q => q.1 hc150); rw [if_pos qf] at st; exact st }⟩
        · skip
          refine own_aload (pc' := 155) X20 hx (hb hby at_153) rfl rfl rfl ?_
          refine own_iload (pc' := 157) X20 hx (hb hby at_155) rfl rfl ?_
          refine own_iconst (pc' := 158) X20 hx (1 : Int32) (hb hby at_157) rfl rfl ?_
          refine own_callS (pc' := 161) (W := 0) (y := (⟨"com/example/steerage/steerage/agent/HttpHeadEndPinLaw", "blank", "([BII)Z"⟩ : MethodName)) X20 hx hZ hown (own_w hw 22 rfl) (own_w hw 23 rfl) (own_w hw 3 rfl) (own_w hw 24 rfl) (by decide) (conB1 l Z a0 hw b1 v18 _ _ [r2, r4, r6, r8, r10, r12, r14, r16] V17 hl.1) e20 pd0 [(.ref b1), (.int v18), (.int (1 : Int32))] [] rfl rfl rfl (Nat.le_of_eq rfl) (by decide) (by decide) (by rw [hml]; rfl) (hb hby at_158) (by decide) (by decide) rfl ?_
          intro v22 T22 L22 X22 q22
          obtain ⟨r22, rfl, hr22, rfl, e22⟩ := q22
          have N22 := Fr.app N20 (Fr.nil n0)
          show own_WP _ _ _ _ _ _ _ (T22.setTop (mkF m 161 #[.val (.int p0), .val (.long p1), .second, .val (.int p2), .val (.ref b1), .val (.int v18), .val (.int je0), .val (.int jz0)] [(.int r22)]))
          refine own_if_eq (pt := 167) (pf := 164) X22 hx (hb hby at_161) rfl (by decide) rfl (fun hc161 => ?_) (fun hc161 => ?_)
          · skip
            refine own_aload (pc' := 169) X22 hx (hb hby at_167) rfl rfl rfl ?_
            refine own_iload (pc' := 171) X22 hx (hb hby at_169) rfl rfl ?_
            refine own_iconst (pc' := 172) X22 hx (1 : Int32) (hb hby at_171) rfl rfl ?_
            refine own_callS (pc' := 175) (W := 0) (y := (⟨"com/example/steerage/steerage/agent/HttpHeadEndPinLaw", "full", "([BII)Z"⟩ : MethodName)) X22 hx hZ hown (own_w hw 6 rfl) (own_w hw 7 rfl) (own_w hw 3 rfl) (own_w hw 8 rfl) (by decide) (conF1 l Z a0 hw b1 v18 _ _ [r2, r4, r6, r8, r10, r12, r14, r16] V17 hl.1) e22 pd0 [(.ref b1), (.int v18), (.int (1 : Int32))] [] rfl rfl rfl (Nat.le_of_eq rfl) (by decide) (by decide) (by rw [hml]; rfl) (hb hby at_172) (by decide) (by decide) rfl ?_
            intro v23 T23 L23 X23 q23
            obtain ⟨r23, rfl, hr23, rfl, e23⟩ := q23
            have N23 := Fr.app N22 (Fr.nil n0)
            show own_WP _ _ _ _ _ _ _ (T23.setTop (mkF m 175 #[.val (.int p0), .val (.long p1), .second, .val (.int p2), .val (.ref b1), .val (.int v18), .val (.int je0), .val (.int jz0)] [(.int r23)]))
            refine own_if_eq (pt := 181) (pf := 178) X23 hx (hb hby at_175) rfl (by decide) rfl (fun hc175 => ?_) (fun hc175 => ?_)
            · skip
              exact J181 ⟨T23, je0, jz0⟩ ⟨_, X23, N23, e23, by { have qf := own_bb0 hr23 hc175; have st := (own_InvStep (k := 2) (by decide) (by decide) hj143 hc145).2 (fun q => own_bb0 hr22 hc161 q.2); rw [if_neg qf] at st; exact st }⟩
            · skip
              refine own_iconst (pc' := 179) X23 hx (1 : Int32) (hb hby at_178) rfl rfl ?_
              refine own_istore (pc' := 181) (l' := #[.val (.int p0), .val (.long p1), .second, .val (.int p2), .val (.ref b1), .val (.int v18), .val (.int je0), .val (.int (1 : Int32))]) X23 hx (hb hby at_179) rfl rfl rfl ?_
              exact J181 ⟨T23, je0, (1 : Int32)⟩ ⟨_, X23, N23, e23, by { have qf := own_bb1 hr23 hc175; have st := (own_InvStep (k := 2) (by decide) (by decide) hj143 hc145).2 (fun q => own_bb0 hr22 hc161 q.2); rw [if_pos qf] at st; exact st }⟩
          · skip
            refine own_iconst (pc' := 165) X22 hx (2 : Int32) (hb hby at_164) rfl rfl ?_
            refine own_istore (pc' := 167) (l' := #[.val (.int p0), .val (.long p1), .second, .val (.int p2), .val (.ref b1), .val (.int v18), .val (.int (2 : Int32)), .val (.int jz0)]) X22 hx (hb hby at_165) rfl rfl rfl ?_
            refine own_aload (pc' := 169) X22 hx (hb hby at_167) rfl rfl rfl ?_
            refine own_iload (pc' := 171) X22 hx (hb hby at_169) rfl rfl ?_
            refine own_iconst (pc' := 172) X22 hx (1 : Int32) (hb hby at_171) rfl rfl ?_
            refine own_callS (pc' := 175) (W := 0) (y := (⟨"com/example/steerage/steerage/agent/HttpHeadEndPinLaw", "full", "([BII)Z"⟩ : MethodName)) X22 hx hZ hown (own_w hw 6 rfl) (own_w hw 7 rfl) (own_w hw 3 rfl) (own_w hw 8 rfl) (by decide) (conF1 l Z a0 hw b1 v18 _ _ [r2, r4, r6, r8, r10, r12, r14, r16] V17 hl.1) e22 pd0 [(.ref b1), (.int v18), (.int (1 : Int32))] [] rfl rfl rfl (Nat.le_of_eq rfl) (by decide) (by decide) (by rw [hml]; rfl) (hb hby at_172) (by decide) (by decide) rfl ?_
            intro v24 T24 L24 X24 q24
            obtain ⟨r24, rfl, hr24, rfl, e24⟩ := q24
            have N24 := Fr.app N22 (Fr.nil n0)
            show own_WP _ _ _ _ _ _ _ (T24.setTop (mkF m 175 #[.val (.int p0), .val (.long p1), .second, .val (.int p2), .val (.ref b1), .val (.int v18), .val (.int (2 : Int32)), .val (.int jz0)] [(.int r24)]))
            refine own_if_eq (pt := 181) (pf := 178) X24 hx (hb hby at_175) rfl (by decide) rfl (fun hc175 => ?_) (fun hc175 => ?_)
            · skip
              exact J181 ⟨T24, (2 : Int32), jz0⟩ ⟨_, X24, N24, e24, by { have qb := own_bb1 hr22 hc161; exact (own_InvStep (k := 2) (by decide) (by decide) hj143 hc145).1 hc150 qb.1 qb.2 _ }⟩
            · skip
              refine own_iconst (pc' := 179) X24 hx (1 : Int32) (hb hby at_178) rfl rfl ?_
              refine own_istore (pc' := 181) (l' := #[.val (.int p0), .val (.long p1), .second, .val (.int p2), .val (.ref b1), .val (.int v18), .val (.int (2 : Int32)), .val (.int (1 : Int32))]) X24 hx (hb hby at_179) rfl rfl rfl ?_
              exact J181 ⟨T24, (2 : Int32), (1 : Int32)⟩ ⟨_, X24, N24, e24, by { have qb := own_bb1 hr22 hc161; exact (own_InvStep (k := 2) (by decide) (by decide) hj143 hc145).1 hc150 qb.1 qb.2 _ }⟩
    · obtain ⟨T25, je1, jz1⟩ := x
      obtain ⟨L25, X25, N25, e25, hj181⟩ := hx181
      have hj181 : own_Inv (own_at [r2, r4, r6, r8, r10, r12, r14, r16]) v18.toInt.toNat RR 2 je1 jz1 := hj181
      have e25 : T25.heap = h17 := e25
      show own_WP _ _ _ _ _ _ _ (T25.setTop (mkF m 181 #[.val (.int p0), .val (.long p1), .second, .val (.int p2), .val (.ref b1), .val (.int v18), .val (.int je1), .val (.int jz1)] []))
      refine own_iload (pc' := 183) X25 hx (hb hby at_181) rfl rfl ?_
      refine own_join (fun x : State × Int32 × Int32 => ∃ L', Stand p l e room_1 s m #[(.int p0), (.long p1), (.int p2)] below meth c x.1 L' 1 8 ∧ Fr n0 L' ∧ x.1.heap = h17 ∧ own_Inv (own_at [r2, r4, r6, r8, r10, r12, r14, r16]) v18.toInt.toNat RR 3 x.2.1 x.2.2) (fun x => x.1.setTop (mkF m 219 #[.val (.int p0), .val (.long p1), .second, .val (.int p2), .val (.ref b1), .val (.int v18), .val (.int x.2.1), .val (.int x.2.2)] [])) (fun J219 => ?_) (fun x hx219 => ?_)
      · skip
        refine own_if_ge (pt := 219) (pf := 186) X25 hx (hb hby at_183) rfl (by decide) rfl (fun hc183 => ?_) (fun hc183 => ?_)
        · skip
          exact J219 ⟨T25, je1, jz1⟩ ⟨_, X25, N25, e25, own_InvKeep hj181 hc183 _⟩
        · skip
          refine own_iload (pc' := 188) X25 hx (hb hby at_186) rfl rfl ?_
          refine own_if_eq (pt := 205) (pf := 191) X25 hx (hb hby at_188) rfl (by decide) rfl (fun hc188 => ?_) (fun hc188 => ?_)
          · skip
            refine own_aload (pc' := 207) X25 hx (hb hby at_205) rfl rfl rfl ?_
            refine own_iload (pc' := 209) X25 hx (hb hby at_207) rfl rfl ?_
            refine own_iconst (pc' := 210) X25 hx (2 : Int32) (hb hby at_209) rfl rfl ?_
            refine own_callS (pc' := 213) (W := 0) (y := (⟨"com/example/steerage/steerage/agent/HttpHeadEndPinLaw", "full", "([BII)Z"⟩ : MethodName)) X25 hx hZ hown (own_w hw 6 rfl) (own_w hw 7 rfl) (own_w hw 3 rfl) (own_w hw 8 rfl) (by decide) (conF2 l Z a0 hw b1 v18 _ _ [r2, r4, r6, r8, r10, r12, r14, r16] V17 hl.1) e25 pd0 [(.ref b1), (.int v18), (.int (2 : Int32))] [] rfl rfl rfl (Nat.le_of_eq rfl) (by decide) (by decide) (by rw [hml]; rfl) (hb hby at_210) (by decide) (by decide) rfl ?_
            intro v26 T26 L26 X26 q26
            obtain ⟨r26, rfl, hr26, rfl, e26⟩ := q26
            have N26 := Fr.app N25 (Fr.nil n0)
            show own_WP _ _ _ _ _ _ _ (T26.setTop (mkF m 213 #[.val (.int p0), .val (.long p1), .second, .val (.int p2), .val (.ref b1), .val (.int v18), .val (.int je1), .val (.int jz1)] [(.int r26)]))
            refine own_if_eq (pt := 219) (pf := 216) X26 hx (hb hby at_213) rfl (by decide) rfl (fun hc213 => ?_) (fun hc213 => ?_)
            · skip
              exact J219 ⟨T26, je1, jz1⟩ ⟨_, X26, N26, e26, by { have qf := own_bb0 hr26 hc213; have st := (own_InvStep (k := 3) (by decide) (by decide) hj181 hc183).2 (fun q => q.1 hc188); rw [if_neg qf] at st; exact st }⟩
            · skip
              refine own_iconst (pc' := 217) X26 hx (1 : Int32) (hb hby at_216) rfl rfl ?_
              refine own_istore (pc' := 219) (l' := #[.val (.int p0), .val (.long p1), .second, .val (.int p2), .val (.ref b1), .val (.int v18), .val (.int je1), .val (.int (1 : Int32))]) X26 hx (hb hby at_217) rfl rfl rfl ?_
              exact J219 ⟨T26, je1, (1 : Int32)⟩ ⟨_, X26, N26, e26, by { have qf := own_bb1 hr26 hc213; have st := (own_InvStep (k := 3) (by decide) (by decide) hj181 hc183).2 (fun q => q.1 hc188); rw [if_pos qf] at st; exact st }⟩
          · skip
            refine own_aload (pc' := 193) X25 hx (hb hby at_191) rfl rfl rfl ?_
            refine own_iload (pc' := 195) X25 hx (hb hby at_193) rfl rfl ?_
            refine own_iconst (pc' := 196) X25 hx (2 : Int32) (hb hby at_195) rfl rfl ?_
            refine own_callS (pc' := 199) (W := 0) (y := (⟨"com/example/steerage/steerage/agent/HttpHeadEndPinLaw", "blank", "([BII)Z"⟩ : MethodName)) X25 hx hZ hown (own_w hw 22 rfl) (own_w hw 23 rfl) (own_w hw 3 rfl) (own_w hw 24 rfl) (by decide) (conB2 l Z a0 hw b1 v18 _ _ [r2, r4, r6, r8, r10, r12, r14, r16] V17 hl.1) e25 pd0 [(.ref b1), (.int v18), (.int (2 : Int32))] [] rfl rfl rfl (Nat.le_of_eq rfl) (by decide) (by decide) (by rw [hml]; rfl) (hb hby at_196) (by decide) (by decide) rfl ?_
            intro v27 T27 L27 X27 q27
            obtain ⟨r27, rfl, hr27, rfl, e27⟩ := q27
            have N27 := Fr.app N25 (Fr.nil n0)
            show own_WP _ _ _ _ _ _ _ (T27.setTop (mkF m 199 #[.val (.int p0), .val (.long p1), .second, .val (.int p2), .val (.ref b1), .val (.int v18), .val (.int je1), .val (.int jz1)] [(.int r27)]))
            refine own_if_eq (pt := 205) (pf := 202) X27 hx (hb hby at_199) rfl (by decide) rfl (fun hc199 => ?_) (fun hc199 => ?_)
            · skip
              refine own_aload (pc' := 207) X27 hx (hb hby at_205) rfl rfl rfl ?_
              refine own_iload (pc' := 209) X27 hx (hb hby at_207) rfl rfl ?_
              refine own_iconst (pc' := 210) X27 hx (2 : Int32) (hb hby at_209) rfl rfl ?_
              refine own_callS (pc' := 213) (W := 0) (y := (⟨"com/example/steerage/steerage/agent/HttpHeadEndPinLaw", "full", "([BII)Z"⟩ : MethodName)) X27 hx hZ hown (own_w hw 6 rfl) (own_w hw 7 rfl) (own_w hw 3 rfl) (own_w hw 8 rfl) (by decide) (conF2 l Z a0 hw b1 v18 _ _ [r2, r4, r6, r8, r10, r12, r14, r16] V17 hl.1) e27 pd0 [(.ref b1), (.int v18), (.int (2 : Int32))] [] rfl rfl rfl (Nat.le_of_eq rfl) (by decide) (by decide) (by rw [hml]; rfl) (hb hby at_210) (by decide) (by decide) rfl ?_
              intro v28 T28 L28 X28 q28
              obtain ⟨r28, rfl, hr28, rfl, e28⟩ := q28
              have N28 := Fr.app N27 (Fr.nil n0)
              show own_WP _ _ _ _ _ _ _ (T28.setTop (mkF m 213 #[.val (.int p0), .val (.long p1), .second, .val (.int p2), .val (.ref b1), .val (.int v18), .val (.int je1), .val (.int jz1)] [(.int r28)]))
              refine own_if_eq (pt := 219) (pf := 216) X28 hx (hb hby at_213) rfl (by decide) rfl (fun hc213 => ?_) (fun hc213 => ?_)
              · skip
                exact J219 ⟨T28, je1, jz1⟩ ⟨_, X28, N28, e28, by { have qf := own_bb0 hr28 hc213; have st := (own_InvStep (k := 3) (by decide) (by decide) hj181 hc183).2 (fun q => own_bb0 hr27 hc199 q.2); rw [if_neg qf] at st; exact st }⟩
              · skip
                refine own_iconst (pc' := 217) X28 hx (1 : Int32) (hb hby at_216) rfl rfl ?_
                refine own_istore (pc' := 219) (l' := #[.val (.int p0), .val (.long p1), .second, .val (.int p2), .val (.ref b1), .val (.int v18), .val (.int je1), .val (.int (1 : Int32))]) X28 hx (hb hby at_217) rfl rfl rfl ?_
                exact J219 ⟨T28, je1, (1 : Int32)⟩ ⟨_, X28, N28, e28, by { have qf := own_bb1 hr28 hc213; have st := (own_InvStep (k := 3) (by decide) (by decide) hj181 hc183).2 (fun q => own_bb0 hr27 hc199 q.2); rw [if_pos qf] at st; exact st }⟩
            · skip
              refine own_iconst (pc' := 203) X27 hx (3 : Int32) (hb hby at_202) rfl rfl ?_
              refine own_istore (pc' := 205) (l' := #[.val (.int p0), .val (.long p1), .second, .val (.int p2), .val (.ref b1), .val (.int v18), .val (.int (3 : Int32)), .val (.int jz1)]) X27 hx (hb hby at_203) rfl rfl rfl ?_
              refine own_aload (pc' := 207) X27 hx (hb hby at_205) rfl rfl rfl ?_
              refine own_iload (pc' := 209) X27 hx (hb hby at_207) rfl rfl ?_
              refine own_iconst (pc' := 210) X27 hx (2 : Int32) (hb hby at_209) rfl rfl ?_
              refine own_callS (pc' := 213) (W := 0) (y := (⟨"com/example/steerage/steerage/agent/HttpHeadEndPinLaw", "full", "([BII)Z"⟩ : MethodName)) X27 hx hZ hown (own_w hw 6 rfl) (own_w hw 7 rfl) (own_w hw 3 rfl) (own_w hw 8 rfl) (by decide) (conF2 l Z a0 hw b1 v18 _ _ [r2, r4, r6, r8, r10, r12, r14, r16] V17 hl.1) e27 pd0 [(.ref b1), (.int v18), (.int (2 : Int32))] [] rfl rfl rfl (Nat.le_of_eq rfl) (by decide) (by decide) (by rw [hml]; rfl) (hb hby at_210) (by decide) (by decide) rfl ?_
              intro v29 T29 L29 X29 q29
              obtain ⟨r29, rfl, hr29, rfl, e29⟩ := q29
              have N29 := Fr.app N27 (Fr.nil n0)
              show own_WP _ _ _ _ _ _ _ (T29.setTop (mkF m 213 #[.val (.int p0), .val (.long p1), .second, .val (.int p2), .val (.ref b1), .val (.int v18), .val (.int (3 : Int32)), .val (.int jz1)] [(.int r29)]))
              refine own_if_eq (pt := 219) (pf := 216) X29 hx (hb hby at_213) rfl (by decide) rfl (fun hc213 => ?_) (fun hc213 => ?_)
              · skip
                exact J219 ⟨T29, (3 : Int32), jz1⟩ ⟨_, X29, N29, e29, by { have qb := own_bb1 hr27 hc199; exact (own_InvStep (k := 3) (by decide) (by decide) hj181 hc183).1 hc188 qb.1 qb.2 _ }⟩
              · skip
                refine own_iconst (pc' := 217) X29 hx (1 : Int32) (hb hby at_216) rfl rfl ?_
                refine own_istore (pc' := 219) (l' := #[.val (.int p0), .val (.long p1), .second, .val (.int p2), .val (.ref b1), .val (.int v18), .val (.int (3 : Int32)), .val (.int (1 : Int32))]) X29 hx (hb hby at_217) rfl rfl rfl ?_
                exact J219 ⟨T29, (3 : Int32), (1 : Int32)⟩ ⟨_, X29, N29, e29, by { have qb := own_bb1 hr27 hc199; exact (own_InvStep (k := 3) (by decide) (by decide) hj181 hc183).1 hc188 qb.1 qb.2 _ }⟩
      · obtain ⟨T30, je2, jz2⟩ := x
        obtain ⟨L30, X30, N30, e30, hj219⟩ := hx219
        have hj219 : own_Inv (own_at [r2, r4, r6, r8, r10, r12, r14, r16]) v18.toInt.toNat RR 3 je2 jz2 := hj219
        have e30 : T30.heap = h17 := e30
        show own_WP _ _ _ _ _ _ _ (T30.setTop (mkF m 219 #[.val (.int p0), .val (.long p1), .second, .val (.int p2), .val (.ref b1), .val (.int v18), .val (.int je2), .val (.int jz2)] []))
        refine own_iload (pc' := 221) X30 hx (hb hby at_219) rfl rfl ?_
        refine own_join (fun x : State × Int32 × Int32 => ∃ L', Stand p l e room_1 s m #[(.int p0), (.long p1), (.int p2)] below meth c x.1 L' 1 8 ∧ Fr n0 L' ∧ x.1.heap = h17 ∧ own_Inv (own_at [r2, r4, r6, r8, r10, r12, r14, r16]) v18.toInt.toNat RR 4 x.2.1 x.2.2) (fun x => x.1.setTop (mkF m 257 #[.val (.int p0), .val (.long p1), .second, .val (.int p2), .val (.ref b1), .val (.int v18), .val (.int x.2.1), .val (.int x.2.2)] [])) (fun J257 => ?_) (fun x hx257 => ?_)
        · skip
          refine own_if_ge (pt := 257) (pf := 224) X30 hx (hb hby at_221) rfl (by decide) rfl (fun hc221 => ?_) (fun hc221 => ?_)
          · skip
            exact J257 ⟨T30, je2, jz2⟩ ⟨_, X30, N30, e30, own_InvKeep hj219 hc221 _⟩
          · skip
            refine own_iload (pc' := 226) X30 hx (hb hby at_224) rfl rfl ?_
            refine own_if_eq (pt := 243) (pf := 229) X30 hx (hb hby at_226) rfl (by decide) rfl (fun hc226 => ?_) (fun hc226 => ?_)
            · skip
              refine own_aload (pc' := 245) X30 hx (hb hby at_243) rfl rfl rfl ?_
              refine own_iload (pc' := 247) X30 hx (hb hby at_245) rfl rfl ?_
              refine own_iconst (pc' := 248) X30 hx (3 : Int32) (hb hby at_247) rfl rfl ?_
              refine own_callS (pc' := 251) (W := 0) (y := (⟨"com/example/steerage/steerage/agent/HttpHeadEndPinLaw", "full", "([BII)Z"⟩ : MethodName)) X30 hx hZ hown (own_w hw 6 rfl) (own_w hw 7 rfl) (own_w hw 3 rfl) (own_w hw 8 rfl) (by decide) (conF3 l Z a0 hw b1 v18 _ _ [r2, r4, r6, r8, r10, r12, r14, r16] V17 hl.1) e30 pd0 [(.ref b1), (.int v18), (.int (3 : Int32))] [] rfl rfl rfl (Nat.le_of_eq rfl) (by decide) (by decide) (by rw [hml]; rfl) (hb hby at_248) (by decide) (by decide) rfl ?_
              intro v31 T31 L31 X31 q31
              obtain ⟨r31, rfl, hr31, rfl, e31⟩ := q31
              have N31 := Fr.app N30 (Fr.nil n0)
              show own_WP _ _ _ _ _ _ _ (T31.setTop (mkF m 251 #[.val (.int p0), .val (.long p1), .second, .val (.int p2), .val (.ref b1), .val (.int v18), .val (.int je2), .val (.int jz2)] [(.int r31)]))
              refine own_if_eq (pt := 257) (pf := 254) X31 hx (hb hby at_251) rfl (by decide) rfl (fun hc251 => ?_) (fun hc251 => ?_)
              · skip
                exact J257 ⟨T31, je2, jz2⟩ ⟨_, X31, N31, e31, by { have qf := own_bb0 hr31 hc251; have st := (own_InvStep (k := 4) (by decide) (by decide) hj219 hc221).2 (fun q => q.1 hc226); rw [if_neg qf] at st; exact st }⟩
              · skip
                refine own_iconst (pc' := 255) X31 hx (1 : Int32) (hb hby at_254) rfl rfl ?_
                refine own_istore (pc' := 257) (l' := #[.val (.int p0), .val (.long p1), .second, .val (.int p2), .val (.ref b1), .val (.int v18), .val (.int je2), .val (.int (1 : Int32))]) X31 hx (hb hby at_255) rfl rfl rfl ?_
                exact J257 ⟨T31, je2, (1 : Int32)⟩ ⟨_, X31, N31, e31, by { have qf := own_bb1 hr31 hc251; have st := (own_InvStep (k := 4) (by decide) (by decide) hj219 hc221).2 (fun q => q.1 hc226); rw [if_pos qf] at st; exact st }⟩
            · skip
              refine own_aload (pc' := 231) X30 hx (hb hby at_229) rfl rfl rfl ?_
              refine own_iload (pc' := 233) X30 hx (hb hby at_231) rfl rfl ?_
              refine own_iconst (pc' := 234) X30 hx (3 : Int32) (hb hby at_233) rfl rfl ?_
              refine own_callS (pc' := 237) (W := 0) (y := (⟨"com/example/steerage/steerage/agent/HttpHeadEndPinLaw", "blank", "([BII)Z"⟩ : MethodName)) X30 hx hZ hown (own_w hw 22 rfl) (own_w hw 23 rfl) (own_w hw 3 rfl) (own_w hw 24 rfl) (by decide) (conB3 l Z a0 hw b1 v18 _ _ [r2, r4, r6, r8, r10, r12, r14, r16] V17 hl.1) e30 pd0 [(.ref b1), (.int v18), (.int (3 : Int32))] [] rfl rfl rfl (Nat.le_of_eq rfl) (by decide) (by decide) (by rw [hml]; rfl) (hb hby at_234) (by decide) (by decide) rfl ?_
              intro v32 T32 L32 X32 q32
              obtain ⟨r32, rfl, hr32, rfl, e32⟩ := q32
              have N32 := Fr.app N30 (Fr.nil n0)
              show own_WP _ _ _ _ _ _ _ (T32.setTop (mkF m 237 #[.val (.int p0), .val (.long p1), .second, .val (.int p2), .val (.ref b1), .val (.int v18), .val (.int je2), .val (.int jz2)] [(.int r32)]))
              refine own_if_eq (pt := 243) (pf := 240) X32 hx (hb hby at_237) rfl (by decide) rfl (fun hc237 => ?_) (fun hc237 => ?_)
              · skip
                refine own_aload (pc' := 245) X32 hx (hb hby at_243) rfl rfl rfl ?_
                refine own_iload (pc' := 247) X32 hx (hb hby at_245) rfl rfl ?_
                refine own_iconst (pc' := 248) X32 hx (3 : Int32) (hb hby at_247) rfl rfl ?_
                refine own_callS (pc' := 251) (W := 0) (y := (⟨"com/example/steerage/steerage/agent/HttpHeadEndPinLaw", "full", "([BII)Z"⟩ : MethodName)) X32 hx hZ hown (own_w hw 6 rfl) (own_w hw 7 rfl) (own_w hw 3 rfl) (own_w hw 8 rfl) (by decide) (conF3 l Z a0 hw b1 v18 _ _ [r2, r4, r6, r8, r10, r12, r14, r16] V17 hl.1) e32 pd0 [(.ref b1), (.int v18), (.int (3 : Int32))] [] rfl rfl rfl (Nat.le_of_eq rfl) (by decide) (by decide) (by rw [hml]; rfl) (hb hby at_248) (by decide) (by decide) rfl ?_
                intro v33 T33 L33 X33 q33
                obtain ⟨r33, rfl, hr33, rfl, e33⟩ := q33
                have N33 := Fr.app N32 (Fr.nil n0)
                show own_WP _ _ _ _ _ _ _ (T33.setTop (mkF m 251 #[.val (.int p0), .val (.long p1), .second, .val (.int p2), .val (.ref b1), .val (.int v18), .val (.int je2), .val (.int jz2)] [(.int r33)]))
                refine own_if_eq (pt := 257) (pf := 254) X33 hx (hb hby at_251) rfl (by decide) rfl (fun hc251 => ?_) (fun hc251 => ?_)
                · skip
                  exact J257 ⟨T33, je2, jz2⟩ ⟨_, X33, N33, e33, by { have qf := own_bb0 hr33 hc251; have st := (own_InvStep (k := 4) (by decide) (by decide) hj219 hc221).2 (fun q => own_bb0 hr32 hc237 q.2); rw [if_neg qf] at st; exact st }⟩
                · skip
                  refine own_iconst (pc' := 255) X33 hx (1 : Int32) (hb hby at_254) rfl rfl ?_
                  refine own_istore (pc' := 257) (l' := #[.val (.int p0), .val (.long p1), .second, .val (.int p2), .val (.ref b1), .val (.int v18), .val (.int je2), .val (.int (1 : Int32))]) X33 hx (hb hby at_255) rfl rfl rfl ?_
                  exact J257 ⟨T33, je2, (1 : Int32)⟩ ⟨_, X33, N33, e33, by { have qf := own_bb1 hr33 hc251; have st := (own_InvStep (k := 4) (by decide) (by decide) hj219 hc221).2 (fun q => own_bb0 hr32 hc237 q.2); rw [if_pos qf] at st; exact st }⟩
              · skip
                refine own_iconst (pc' := 241) X32 hx (4 : Int32) (hb hby at_240) rfl rfl ?_
                refine own_istore (pc' := 243) (l' := #[.val (.int p0), .val (.long p1), .second, .val (.int p2), .val (.ref b1), .val (.int v18), .val (.int (4 : Int32)), .val (.int jz2)]) X32 hx (hb hby at_241) rfl rfl rfl ?_
                refine own_aload (pc' := 245) X32 hx (hb hby at_243) rfl rfl rfl ?_
                refine own_iload (pc' := 247) X32 hx (hb hby at_245) rfl rfl ?_
                refine own_iconst (pc' := 248) X32 hx (3 : Int32) (hb hby at_247) rfl rfl ?_
                refine own_callS (pc' := 251) (W := 0) (y := (⟨"com/example/steerage/steerage/agent/HttpHeadEndPinLaw", "full", "([BII)Z"⟩ : MethodName)) X32 hx hZ hown (own_w hw 6 rfl) (own_w hw 7 rfl) (own_w hw 3 rfl) (own_w hw 8 rfl) (by decide) (conF3 l Z a0 hw b1 v18 _ _ [r2, r4, r6, r8, r10, r12, r14, r16] V17 hl.1) e32 pd0 [(.ref b1), (.int v18), (.int (3 : Int32))] [] rfl rfl rfl (Nat.le_of_eq rfl) (by decide) (by decide) (by rw [hml]; rfl) (hb hby at_248) (by decide) (by decide) rfl ?_
                intro v34 T34 L34 X34 q34
                obtain ⟨r34, rfl, hr34, rfl, e34⟩ := q34
                have N34 := Fr.app N32 (Fr.nil n0)
                show own_WP _ _ _ _ _ _ _ (T34.setTop (mkF m 251 #[.val (.int p0), .val (.long p1), .second, .val (.int p2), .val (.ref b1), .val (.int v18), .val (.int (4 : Int32)), .val (.int jz2)] [(.int r34)]))
                refine own_if_eq (pt := 257) (pf := 254) X34 hx (hb hby at_251) rfl (by decide) rfl (fun hc251 => ?_) (fun hc251 => ?_)
                · skip
                  exact J257 ⟨T34, (4 : Int32), jz2⟩ ⟨_, X34, N34, e34, by { have qb := own_bb1 hr32 hc237; exact (own_InvStep (k := 4) (by decide) (by decide) hj219 hc221).1 hc226 qb.1 qb.2 _ }⟩
                · skip
                  refine own_iconst (pc' := 255) X34 hx (1 : Int32) (hb hby at_254) rfl rfl ?_
                  refine own_istore (pc' := 257) (l' := #[.val (.int p0), .val (.long p1), .second, .val (.int p2), .val (.ref b1), .val (.int v18), .val (.int (4 : Int32)), .val (.int (1 : Int32))]) X34 hx (hb hby at_255) rfl rfl rfl ?_
                  exact J257 ⟨T34, (4 : Int32), (1 : Int32)⟩ ⟨_, X34, N34, e34, by { have qb := own_bb1 hr32 hc237; exact (own_InvStep (k := 4) (by decide) (by decide) hj219 hc221).1 hc226 qb.1 qb.2 _ }⟩
        · obtain ⟨T35, je3, jz3⟩ := x
          obtain ⟨L35, X35, N35, e35, hj257⟩ := hx257
          have hj257 : own_Inv (own_at [r2, r4, r6, r8, r10, r12, r14, r16]) v18.toInt.toNat RR 4 je3 jz3 := hj257
          have e35 : T35.heap = h17 := e35
          show own_WP _ _ _ _ _ _ _ (T35.setTop (mkF m 257 #[.val (.int p0), .val (.long p1), .second, .val (.int p2), .val (.ref b1), .val (.int v18), .val (.int je3), .val (.int jz3)] []))
          refine own_iload (pc' := 259) X35 hx (hb hby at_257) rfl rfl ?_
          refine own_join (fun x : State × Int32 × Int32 => ∃ L', Stand p l e room_1 s m #[(.int p0), (.long p1), (.int p2)] below meth c x.1 L' 1 8 ∧ Fr n0 L' ∧ x.1.heap = h17 ∧ own_Inv (own_at [r2, r4, r6, r8, r10, r12, r14, r16]) v18.toInt.toNat RR 5 x.2.1 x.2.2) (fun x => x.1.setTop (mkF m 295 #[.val (.int p0), .val (.long p1), .second, .val (.int p2), .val (.ref b1), .val (.int v18), .val (.int x.2.1), .val (.int x.2.2)] [])) (fun J295 => ?_) (fun x hx295 => ?_)
          · skip
            refine own_if_ge (pt := 295) (pf := 262) X35 hx (hb hby at_259) rfl (by decide) rfl (fun hc259 => ?_) (fun hc259 => ?_)
            · skip
              exact J295 ⟨T35, je3, jz3⟩ ⟨_, X35, N35, e35, own_InvKeep hj257 hc259 _⟩
            · skip
              refine own_iload (pc' := 264) X35 hx (hb hby at_262) rfl rfl ?_
              refine own_if_eq (pt := 281) (pf := 267) X35 hx (hb hby at_264) rfl (by decide) rfl (fun hc264 => ?_) (fun hc264 => ?_)
              · skip
                refine own_aload (pc' := 283) X35 hx (hb hby at_281) rfl rfl rfl ?_
                refine own_iload (pc' := 285) X35 hx (hb hby at_283) rfl rfl ?_
                refine own_iconst (pc' := 286) X35 hx (4 : Int32) (hb hby at_285) rfl rfl ?_
                refine own_callS (pc' := 289) (W := 0) (y := (⟨"com/example/steerage/steerage/agent/HttpHeadEndPinLaw", "full", "([BII)Z"⟩ : MethodName)) X35 hx hZ hown (own_w hw 6 rfl) (own_w hw 7 rfl) (own_w hw 3 rfl) (own_w hw 8 rfl) (by decide) (conF4 l Z a0 hw b1 v18 _ _ [r2, r4, r6, r8, r10, r12, r14, r16] V17 hl.1) e35 pd0 [(.ref b1), (.int v18), (.int (4 : Int32))] [] rfl rfl rfl (Nat.le_of_eq rfl) (by decide) (by decide) (by rw [hml]; rfl) (hb hby at_286) (by decide) (by decide) rfl ?_
                intro v36 T36 L36 X36 q36
                obtain ⟨r36, rfl, hr36, rfl, e36⟩ := q36
                have N36 := Fr.app N35 (Fr.nil n0)
                show own_WP _ _ _ _ _ _ _ (T36.setTop (mkF m 289 #[.val (.int p0), .val (.long p1), .second, .val (.int p2), .val (.ref b1), .val (.int v18), .val (.int je3), .val (.int jz3)] [(.int r36)]))
                refine own_if_eq (pt := 295) (pf := 292) X36 hx (hb hby at_289) rfl (by decide) rfl (fun hc289 => ?_) (fun hc289 => ?_)
                · skip
                  exact J295 ⟨T36, je3, jz3⟩ ⟨_, X36, N36, e36, by { have qf := own_bb0 hr36 hc289; have st := (own_InvStep (k := 5) (by decide) (by decide) hj257 hc259).2 (fun q => q.1 hc264); rw [if_neg qf] at st; exact st }⟩
                · skip
                  refine own_iconst (pc' := 293) X36 hx (1 : Int32) (hb hby at_292) rfl rfl ?_
                  refine own_istore (pc' := 295) (l' := #[.val (.int p0), .val (.long p1), .second, .val (.int p2), .val (.ref b1), .val (.int v18), .val (.int je3), .val (.int (1 : Int32))]) X36 hx (hb hby at_293) rfl rfl rfl ?_
                  exact J295 ⟨T36, je3, (1 : Int32)⟩ ⟨_, X36, N36, e36, by { have qf := own_bb1 hr36 hc289; have st := (own_InvStep (k := 5) (by decide) (by decide) hj257 hc259).2 (fun q => q.1 hc264); rw [if_pos qf] at st; exact st }⟩
              · skip
                refine own_aload (pc' := 269) X35 hx (hb hby at_267) rfl rfl rfl ?_
                refine own_iload (pc' := 271) X35 hx (hb hby at_269) rfl rfl ?_
                refine own_iconst (pc' := 272) X35 hx (4 : Int32) (hb hby at_271) rfl rfl ?_
                refine own_callS (pc' := 275) (W := 0) (y := (⟨"com/example/steerage/steerage/agent/HttpHeadEndPinLaw", "blank", "([BII)Z"⟩ : MethodName)) X35 hx hZ hown (own_w hw 22 rfl) (own_w hw 23 rfl) (own_w hw 3 rfl) (own_w hw 24 rfl) (by decide) (conB4 l Z a0 hw b1 v18 _ _ [r2, r4, r6, r8, r10, r12, r14, r16] V17 hl.1) e35 pd0 [(.ref b1), (.int v18), (.int (4 : Int32))] [] rfl rfl rfl (Nat.le_of_eq rfl) (by decide) (by decide) (by rw [hml]; rfl) (hb hby at_272) (by decide) (by decide) rfl ?_
                intro v37 T37 L37 X37 q37
                obtain ⟨r37, rfl, hr37, rfl, e37⟩ := q37
                have N37 := Fr.app N35 (Fr.nil n0)
                show own_WP _ _ _ _ _ _ _ (T37.setTop (mkF m 275 #[.val (.int p0), .val (.long p1), .second, .val (.int p2), .val (.ref b1), .val (.int v18), .val (.int je3), .val (.int jz3)] [(.int r37)]))
                refine own_if_eq (pt := 281) (pf := 278) X37 hx (hb hby at_275) rfl (by decide) rfl (fun hc275 => ?_) (fun hc275 => ?_)
                · skip
                  refine own_aload (pc' := 283) X37 hx (hb hby at_281) rfl rfl rfl ?_
                  refine own_iload (pc' := 285) X37 hx (hb hby at_283) rfl rfl ?_
                  refine own_iconst (pc' := 286) X37 hx (4 : Int32) (hb hby at_285) rfl rfl ?_
                  refine own_callS (pc' := 289) (W := 0) (y := (⟨"com/example/steerage/steerage/agent/HttpHeadEndPinLaw", "full", "([BII)Z"⟩ : MethodName)) X37 hx hZ hown (own_w hw 6 rfl) (own_w hw 7 rfl) (own_w hw 3 rfl) (own_w hw 8 rfl) (by decide) (conF4 l Z a0 hw b1 v18 _ _ [r2, r4, r6, r8, r10, r12, r14, r16] V17 hl.1) e37 pd0 [(.ref b1), (.int v18), (.int (4 : Int32))] [] rfl rfl rfl (Nat.le_of_eq rfl) (by decide) (by decide) (by rw [hml]; rfl) (hb hby at_286) (by decide) (by decide) rfl ?_
                  intro v38 T38 L38 X38 q38
                  obtain ⟨r38, rfl, hr38, rfl, e38⟩ := q38
                  have N38 := Fr.app N37 (Fr.nil n0)
                  show own_WP _ _ _ _ _ _ _ (T38.setTop (mkF m 289 #[.val (.int p0), .val (.long p1), .second, .val (.int p2), .val (.ref b1), .val (.int v18), .val (.int je3), .val (.int jz3)] [(.int r38)]))
                  refine own_if_eq (pt := 295) (pf := 292) X38 hx (hb hby at_289) rfl (by decide) rfl (fun hc289 => ?_) (fun hc289 => ?_)
                  · skip
                    exact J295 ⟨T38, je3, jz3⟩ ⟨_, X38, N38, e38, by { have qf := own_bb0 hr38 hc289; have st := (own_InvStep (k := 5) (by decide) (by decide) hj257 hc259).2 (fun q => own_bb0 hr37 hc275 q.2); rw [if_neg qf] at st; exact st }⟩
                  · skip
                    refine own_iconst (pc' := 293) X38 hx (1 : Int32) (hb hby at_292) rfl rfl ?_
                    refine own_istore (pc' := 295) (l' := #[.val (.int p0), .val (.long p1), .second, .val (.int p2), .val (.ref b1), .val (.int v18), .val (.int je3), .val (.int (1 : Int32))]) X38 hx (hb hby at_293) rfl rfl rfl ?_
                    exact J295 ⟨T38, je3, (1 : Int32)⟩ ⟨_, X38, N38, e38, by { have qf := own_bb1 hr38 hc289; have st := (own_InvStep (k := 5) (by decide) (by decide) hj257 hc259).2 (fun q => own_bb0 hr37 hc275 q.2); rw [if_pos qf] at st; exact st }⟩
                · skip
                  refine own_iconst (pc' := 279) X37 hx (5 : Int32) (hb hby at_278) rfl rfl ?_
                  refine own_istore (pc' := 281) (l' := #[.val (.int p0), .val (.long p1), .second, .val (.int p2), .val (.ref b1), .val (.int v18), .val (.int (5 : Int32)), .val (.int jz3)]) X37 hx (hb hby at_279) rfl rfl rfl ?_
                  refine own_aload (pc' := 283) X37 hx (hb hby at_281) rfl rfl rfl ?_
                  refine own_iload (pc' := 285) X37 hx (hb hby at_283) rfl rfl ?_
                  refine own_iconst (pc' := 286) X37 hx (4 : Int32) (hb hby at_285) rfl rfl ?_
                  refine own_callS (pc' := 289) (W := 0) (y := (⟨"com/example/steerage/steerage/agent/HttpHeadEndPinLaw", "full", "([BII)Z"⟩ : MethodName)) X37 hx hZ hown (own_w hw 6 rfl) (own_w hw 7 rfl) (own_w hw 3 rfl) (own_w hw 8 rfl) (by decide) (conF4 l Z a0 hw b1 v18 _ _ [r2, r4, r6, r8, r10, r12, r14, r16] V17 hl.1) e37 pd0 [(.ref b1), (.int v18), (.int (4 : Int32))] [] rfl rfl rfl (Nat.le_of_eq rfl) (by decide) (by decide) (by rw [hml]; rfl) (hb hby at_286) (by decide) (by decide) rfl ?_
                  intro v39 T39 L39 X39 q39
                  obtain ⟨r39, rfl, hr39, rfl, e39⟩ := q39
                  have N39 := Fr.app N37 (Fr.nil n0)
                  show own_WP _ _ _ _ _ _ _ (T39.setTop (mkF m 289 #[.val (.int p0), .val (.long p1), .second, .val (.int p2), .val (.ref b1), .val (.int v18), .val (.int (5 : Int32)), .val (.int jz3)] [(.int r39)]))
                  refine own_if_eq (pt := 295) (pf := 292) X39 hx (hb hby at_289) rfl (by decide) rfl (fun hc289 => ?_) (fun hc289 => ?_)
                  · skip
                    exact J295 ⟨T39, (5 : Int32), jz3⟩ ⟨_, X39, N39, e39, by { have qb := own_bb1 hr37 hc275; exact (own_InvStep (k := 5) (by decide) (by decide) hj257 hc259).1 hc264 qb.1 qb.2 _ }⟩
                  · skip
                    refine own_iconst (pc' := 293) X39 hx (1 : Int32) (hb hby at_292) rfl rfl ?_
                    refine own_istore (pc' := 295) (l' := #[.val (.int p0), .val (.long p1), .second, .val (.int p2), .val (.ref b1), .val (.int v18), .val (.int (5 : Int32)), .val (.int (1 : Int32))]) X39 hx (hb hby at_293) rfl rfl rfl ?_
                    exact J295 ⟨T39, (5 : Int32), (1 : Int32)⟩ ⟨_, X39, N39, e39, by { have qb := own_bb1 hr37 hc275; exact (own_InvStep (k := 5) (by decide) (by decide) hj257 hc259).1 hc264 qb.1 qb.2 _ }⟩
          · obtain ⟨T40, je4, jz4⟩ := x
            obtain ⟨L40, X40, N40, e40, hj295⟩ := hx295
            have hj295 : own_Inv (own_at [r2, r4, r6, r8, r10, r12, r14, r16]) v18.toInt.toNat RR 5 je4 jz4 := hj295
            have e40 : T40.heap = h17 := e40
            show own_WP _ _ _ _ _ _ _ (T40.setTop (mkF m 295 #[.val (.int p0), .val (.long p1), .second, .val (.int p2), .val (.ref b1), .val (.int v18), .val (.int je4), .val (.int jz4)] []))
            refine own_iload (pc' := 297) X40 hx (hb hby at_295) rfl rfl ?_
            refine own_join (fun x : State × Int32 × Int32 => ∃ L', Stand p l e room_1 s m #[(.int p0), (.long p1), (.int p2)] below meth c x.1 L' 1 8 ∧ Fr n0 L' ∧ x.1.heap = h17 ∧ own_Inv (own_at [r2, r4, r6, r8, r10, r12, r14, r16]) v18.toInt.toNat RR 6 x.2.1 x.2.2) (fun x => x.1.setTop (mkF m 334 #[.val (.int p0), .val (.long p1), .second, .val (.int p2), .val (.ref b1), .val (.int v18), .val (.int x.2.1), .val (.int x.2.2)] [])) (fun J334 => ?_) (fun x hx334 => ?_)
            · skip
              refine own_if_ge (pt := 334) (pf := 300) X40 hx (hb hby at_297) rfl (by decide) rfl (fun hc297 => ?_) (fun hc297 => ?_)
              · skip
                exact J334 ⟨T40, je4, jz4⟩ ⟨_, X40, N40, e40, own_InvKeep hj295 hc297 _⟩
              · skip
                refine own_iload (pc' := 302) X40 hx (hb hby at_300) rfl rfl ?_
                refine own_if_eq (pt := 320) (pf := 305) X40 hx (hb hby at_302) rfl (by decide) rfl (fun hc302 => ?_) (fun hc302 => ?_)
                · skip
                  refine own_aload (pc' := 322) X40 hx (hb hby at_320) rfl rfl rfl ?_
                  refine own_iload (pc' := 324) X40 hx (hb hby at_322) rfl rfl ?_
                  refine own_iconst (pc' := 325) X40 hx (5 : Int32) (hb hby at_324) rfl rfl ?_
                  refine own_callS (pc' := 328) (W := 0) (y := (⟨"com/example/steerage/steerage/agent/HttpHeadEndPinLaw", "full", "([BII)Z"⟩ : MethodName)) X40 hx hZ hown (own_w hw 6 rfl) (own_w hw 7 rfl) (own_w hw 3 rfl) (own_w hw 8 rfl) (by decide) (conF5 l Z a0 hw b1 v18 _ _ [r2, r4, r6, r8, r10, r12, r14, r16] V17 hl.1) e40 pd0 [(.ref b1), (.int v18), (.int (5 : Int32))] [] rfl rfl rfl (Nat.le_of_eq rfl) (by decide) (by decide) (by rw [hml]; rfl) (hb hby at_325) (by decide) (by decide) rfl ?_
                  intro v41 T41 L41 X41 q41
                  obtain ⟨r41, rfl, hr41, rfl, e41⟩ := q41
                  have N41 := Fr.app N40 (Fr.nil n0)
                  show own_WP _ _ _ _ _ _ _ (T41.setTop (mkF m 328 #[.val (.int p0), .val (.long p1), .second, .val (.int p2), .val (.ref b1), .val (.int v18), .val (.int je4), .val (.int jz4)] [(.int r41)]))
                  refine own_if_eq (pt := 334) (pf := 331) X41 hx (hb hby at_328) rfl (by decide) rfl (fun hc328 => ?_) (fun hc328 => ?_)
                  · skip
                    exact J334 ⟨T41, je4, jz4⟩ ⟨_, X41, N41, e41, by { have qf := own_bb0 hr41 hc328; have st := (own_InvStep (k := 6) (by decide) (by decide) hj295 hc297).2 (fun q => q.1 hc302); rw [if_neg qf] at st; exact st }⟩
                  · skip
                    refine own_iconst (pc' := 332) X41 hx (1 : Int32) (hb hby at_331) rfl rfl ?_
                    refine own_istore (pc' := 334) (l' := #[.val (.int p0), .val (.long p1), .second, .val (.int p2), .val (.ref b1), .val (.int v18), .val (.int je4), .val (.int (1 : Int32))]) X41 hx (hb hby at_332) rfl rfl rfl ?_
                    exact J334 ⟨T41, je4, (1 : Int32)⟩ ⟨_, X41, N41, e41, by { have qf := own_bb1 hr41 hc328; have st := (own_InvStep (k := 6) (by decide) (by decide) hj295 hc297).2 (fun q => q.1 hc302); rw [if_pos qf] at st; exact st }⟩
                · skip
                  refine own_aload (pc' := 307) X40 hx (hb hby at_305) rfl rfl rfl ?_
                  refine own_iload (pc' := 309) X40 hx (hb hby at_307) rfl rfl ?_
                  refine own_iconst (pc' := 310) X40 hx (5 : Int32) (hb hby at_309) rfl rfl ?_
                  refine own_callS (pc' := 313) (W := 0) (y := (⟨"com/example/steerage/steerage/agent/HttpHeadEndPinLaw", "blank", "([BII)Z"⟩ : MethodName)) X40 hx hZ hown (own_w hw 22 rfl) (own_w hw 23 rfl) (own_w hw 3 rfl) (own_w hw 24 rfl) (by decide) (conB5 l Z a0 hw b1 v18 _ _ [r2, r4, r6, r8, r10, r12, r14, r16] V17 hl.1) e40 pd0 [(.ref b1), (.int v18), (.int (5 : Int32))] [] rfl rfl rfl (Nat.le_of_eq rfl) (by decide) (by decide) (by rw [hml]; rfl) (hb hby at_310) (by decide) (by decide) rfl ?_
                  intro v42 T42 L42 X42 q42
                  obtain ⟨r42, rfl, hr42, rfl, e42⟩ := q42
                  have N42 := Fr.app N40 (Fr.nil n0)
                  show own_WP _ _ _ _ _ _ _ (T42.setTop (mkF m 313 #[.val (.int p0), .val (.long p1), .second, .val (.int p2), .val (.ref b1), .val (.int v18), .val (.int je4), .val (.int jz4)] [(.int r42)]))
                  refine own_if_eq (pt := 320) (pf := 316) X42 hx (hb hby at_313) rfl (by decide) rfl (fun hc313 => ?_) (fun hc313 => ?_)
                  · skip
                    refine own_aload (pc' := 322) X42 hx (hb hby at_320) rfl rfl rfl ?_
                    refine own_iload (pc' := 324) X42 hx (hb hby at_322) rfl rfl ?_
                    refine own_iconst (pc' := 325) X42 hx (5 : Int32) (hb hby at_324) rfl rfl ?_
                    refine own_callS (pc' := 328) (W := 0) (y := (⟨"com/example/steerage/steerage/agent/HttpHeadEndPinLaw", "full", "([BII)Z"⟩ : MethodName)) X42 hx hZ hown (own_w hw 6 rfl) (own_w hw 7 rfl) (own_w hw 3 rfl) (own_w hw 8 rfl) (by decide) (conF5 l Z a0 hw b1 v18 _ _ [r2, r4, r6, r8, r10, r12, r14, r16] V17 hl.1) e42 pd0 [(.ref b1), (.int v18), (.int (5 : Int32))] [] rfl rfl rfl (Nat.le_of_eq rfl) (by decide) (by decide) (by rw [hml]; rfl) (hb hby at_325) (by decide) (by decide) rfl ?_
                    intro v43 T43 L43 X43 q43
                    obtain ⟨r43, rfl, hr43, rfl, e43⟩ := q43
                    have N43 := Fr.app N42 (Fr.nil n0)
                    show own_WP _ _ _ _ _ _ _ (T43.setTop (mkF m 328 #[.val (.int p0), .val (.long p1), .second, .val (.int p2), .val (.ref b1), .val (.int v18), .val (.int je4), .val (.int jz4)] [(.int r43)]))
                    refine own_if_eq (pt := 334) (pf := 331) X43 hx (hb hby at_328) rfl (by decide) rfl (fun hc328 => ?_) (fun hc328 => ?_)
                    · skip
                      exact J334 ⟨T43, je4, jz4⟩ ⟨_, X43, N43, e43, by { have qf := own_bb0 hr43 hc328; have st := (own_InvStep (k := 6) (by decide) (by decide) hj295 hc297).2 (fun q => own_bb0 hr42 hc313 q.2); rw [if_neg qf] at st; exact st }⟩
                    · skip
                      refine own_iconst (pc' := 332) X43 hx (1 : Int32) (hb hby at_331) rfl rfl ?_
                      refine own_istore (pc' := 334) (l' := #[.val (.int p0), .val (.long p1), .second, .val (.int p2), .val (.ref b1), .val (.int v18), .val (.int je4), .val (.int (1 : Int32))]) X43 hx (hb hby at_332) rfl rfl rfl ?_
                      exact J334 ⟨T43, je4, (1 : Int32)⟩ ⟨_, X43, N43, e43, by { have qf := own_bb1 hr43 hc328; have st := (own_InvStep (k := 6) (by decide) (by decide) hj295 hc297).2 (fun q => own_bb0 hr42 hc313 q.2); rw [if_pos qf] at st; exact st }⟩
                  · skip
                    refine own_bipush (pc' := 318) X42 hx (6 : Int32) (hb hby at_316) rfl rfl ?_
                    refine own_istore (pc' := 320) (l' := #[.val (.int p0), .val (.long p1), .second, .val (.int p2), .val (.ref b1), .val (.int v18), .val (.int (6 : Int32)), .val (.int jz4)]) X42 hx (hb hby at_318) rfl rfl rfl ?_
                    refine own_aload (pc' := 322) X42 hx (hb hby at_320) rfl rfl rfl ?_
                    refine own_iload (pc' := 324) X42 hx (hb hby at_322) rfl rfl ?_
                    refine own_iconst (pc' := 325) X42 hx (5 : Int32) (hb hby at_324) rfl rfl ?_
                    refine own_callS (pc' := 328) (W := 0) (y := (⟨"com/example/steerage/steerage/agent/HttpHeadEndPinLaw", "full", "([BII)Z"⟩ : MethodName)) X42 hx hZ hown (own_w hw 6 rfl) (own_w hw 7 rfl) (own_w hw 3 rfl) (own_w hw 8 rfl) (by decide) (conF5 l Z a0 hw b1 v18 _ _ [r2, r4, r6, r8, r10, r12, r14, r16] V17 hl.1) e42 pd0 [(.ref b1), (.int v18), (.int (5 : Int32))] [] rfl rfl rfl (Nat.le_of_eq rfl) (by decide) (by decide) (by rw [hml]; rfl) (hb hby at_325) (by decide) (by decide) rfl ?_
                    intro v44 T44 L44 X44 q44
                    obtain ⟨r44, rfl, hr44, rfl, e44⟩ := q44
                    have N44 := Fr.app N42 (Fr.nil n0)
                    show own_WP _ _ _ _ _ _ _ (T44.setTop (mkF m 328 #[.val (.int p0), .val (.long p1), .second, .val (.int p2), .val (.ref b1), .val (.int v18), .val (.int (6 : Int32)), .val (.int jz4)] [(.int r44)]))
                    refine own_if_eq (pt := 334) (pf := 331) X44 hx (hb hby at_328) rfl (by decide) rfl (fun hc328 => ?_) (fun hc328 => ?_)
                    · skip
                      exact J334 ⟨T44, (6 : Int32), jz4⟩ ⟨_, X44, N44, e44, by { have qb := own_bb1 hr42 hc313; exact (own_InvStep (k := 6) (by decide) (by decide) hj295 hc297).1 hc302 qb.1 qb.2 _ }⟩
                    · skip
                      refine own_iconst (pc' := 332) X44 hx (1 : Int32) (hb hby at_331) rfl rfl ?_
                      refine own_istore (pc' := 334) (l' := #[.val (.int p0), .val (.long p1), .second, .val (.int p2), .val (.ref b1), .val (.int v18), .val (.int (6 : Int32)), .val (.int (1 : Int32))]) X44 hx (hb hby at_332) rfl rfl rfl ?_
                      exact J334 ⟨T44, (6 : Int32), (1 : Int32)⟩ ⟨_, X44, N44, e44, by { have qb := own_bb1 hr42 hc313; exact (own_InvStep (k := 6) (by decide) (by decide) hj295 hc297).1 hc302 qb.1 qb.2 _ }⟩
            · obtain ⟨T45, je5, jz5⟩ := x
              obtain ⟨L45, X45, N45, e45, hj334⟩ := hx334
              have hj334 : own_Inv (own_at [r2, r4, r6, r8, r10, r12, r14, r16]) v18.toInt.toNat RR 6 je5 jz5 := hj334
              have e45 : T45.heap = h17 := e45
              show own_WP _ _ _ _ _ _ _ (T45.setTop (mkF m 334 #[.val (.int p0), .val (.long p1), .second, .val (.int p2), .val (.ref b1), .val (.int v18), .val (.int je5), .val (.int jz5)] []))
              refine own_iload (pc' := 336) X45 hx (hb hby at_334) rfl rfl ?_
              refine own_join (fun x : State × Int32 × Int32 => ∃ L', Stand p l e room_1 s m #[(.int p0), (.long p1), (.int p2)] below meth c x.1 L' 1 8 ∧ Fr n0 L' ∧ x.1.heap = h17 ∧ own_Inv (own_at [r2, r4, r6, r8, r10, r12, r14, r16]) v18.toInt.toNat RR 7 x.2.1 x.2.2) (fun x => x.1.setTop (mkF m 375 #[.val (.int p0), .val (.long p1), .second, .val (.int p2), .val (.ref b1), .val (.int v18), .val (.int x.2.1), .val (.int x.2.2)] [])) (fun J375 => ?_) (fun x hx375 => ?_)
              · skip
                refine own_if_ge (pt := 375) (pf := 339) X45 hx (hb hby at_336) rfl (by decide) rfl (fun hc336 => ?_) (fun hc336 => ?_)
                · skip
                  exact J375 ⟨T45, je5, jz5⟩ ⟨_, X45, N45, e45, own_InvKeep hj334 hc336 _⟩
                · skip
                  refine own_iload (pc' := 341) X45 hx (hb hby at_339) rfl rfl ?_
                  refine own_if_eq (pt := 360) (pf := 344) X45 hx (hb hby at_341) rfl (by decide) rfl (fun hc341 => ?_) (fun hc341 => ?_)
                  · skip
                    refine own_aload (pc' := 362) X45 hx (hb hby at_360) rfl rfl rfl ?_
                    refine own_iload (pc' := 364) X45 hx (hb hby at_362) rfl rfl ?_
                    refine own_bipush (pc' := 366) X45 hx (6 : Int32) (hb hby at_364) rfl rfl ?_
                    refine own_callS (pc' := 369) (W := 0) (y := (⟨"com/example/steerage/steerage/agent/HttpHeadEndPinLaw", "full", "([BII)Z"⟩ : MethodName)) X45 hx hZ hown (own_w hw 6 rfl) (own_w hw 7 rfl) (own_w hw 3 rfl) (own_w hw 8 rfl) (by decide) (conF6 l Z a0 hw b1 v18 _ _ [r2, r4, r6, r8, r10, r12, r14, r16] V17 hl.1) e45 pd0 [(.ref b1), (.int v18), (.int (6 : Int32))] [] rfl rfl rfl (Nat.le_of_eq rfl) (by decide) (by decide) (by rw [hml]; rfl) (hb hby at_366) (by decide) (by decide) rfl ?_
                    intro v46 T46 L46 X46 q46
                    obtain ⟨r46, rfl, hr46, rfl, e46⟩ := q46
                    have N46 := Fr.app N45 (Fr.nil n0)
                    show own_WP _ _ _ _ _ _ _ (T46.setTop (mkF m 369 #[.val (.int p0), .val (.long p1), .second, .val (.int p2), .val (.ref b1), .val (.int v18), .val (.int je5), .val (.int jz5)] [(.int r46)]))
                    refine own_if_eq (pt := 375) (pf := 372) X46 hx (hb hby at_369) rfl (by decide) rfl (fun hc369 => ?_) (fun hc369 => ?_)
                    · skip
                      exact J375 ⟨T46, je5, jz5⟩ ⟨_, X46, N46, e46, by { have qf := own_bb0 hr46 hc369; have st := (own_InvStep (k := 7) (by decide) (by decide) hj334 hc336).2 (fun q => q.1 hc341); rw [if_neg qf] at st; exact st }⟩
                    · skip
                      refine own_iconst (pc' := 373) X46 hx (1 : Int32) (hb hby at_372) rfl rfl ?_
                      refine own_istore (pc' := 375) (l' := #[.val (.int p0), .val (.long p1), .second, .val (.int p2), .val (.ref b1), .val (.int v18), .val (.int je5), .val (.int (1 : Int32))]) X46 hx (hb hby at_373) rfl rfl rfl ?_
                      exact J375 ⟨T46, je5, (1 : Int32)⟩ ⟨_, X46, N46, e46, by { have qf := own_bb1 hr46 hc369; have st := (own_InvStep (k := 7) (by decide) (by decide) hj334 hc336).2 (fun q => q.1 hc341); rw [if_pos qf] at st; exact st }⟩
                  · skip
                    refine own_aload (pc' := 346) X45 hx (hb hby at_344) rfl rfl rfl ?_
                    refine own_iload (pc' := 348) X45 hx (hb hby at_346) rfl rfl ?_
                    refine own_bipush (pc' := 350) X45 hx (6 : Int32) (hb hby at_348) rfl rfl ?_
                    refine own_callS (pc' := 353) (W := 0) (y := (⟨"com/example/steerage/steerage/agent/HttpHeadEndPinLaw", "blank", "([BII)Z"⟩ : MethodName)) X45 hx hZ hown (own_w hw 22 rfl) (own_w hw 23 rfl) (own_w hw 3 rfl) (own_w hw 24 rfl) (by decide) (conB6 l Z a0 hw b1 v18 _ _ [r2, r4, r6, r8, r10, r12, r14, r16] V17 hl.1) e45 pd0 [(.ref b1), (.int v18), (.int (6 : Int32))] [] rfl rfl rfl (Nat.le_of_eq rfl) (by decide) (by decide) (by rw [hml]; rfl) (hb hby at_350) (by decide) (by decide) rfl ?_
                    intro v47 T47 L47 X47 q47
                    obtain ⟨r47, rfl, hr47, rfl, e47⟩ := q47
                    have N47 := Fr.app N45 (Fr.nil n0)
                    show own_WP _ _ _ _ _ _ _ (T47.setTop (mkF m 353 #[.val (.int p0), .val (.long p1), .second, .val (.int p2), .val (.ref b1), .val (.int v18), .val (.int je5), .val (.int jz5)] [(.int r47)]))
                    refine own_if_eq (pt := 360) (pf := 356) X47 hx (hb hby at_353) rfl (by decide) rfl (fun hc353 => ?_) (fun hc353 => ?_)
                    · skip
                      refine own_aload (pc' := 362) X47 hx (hb hby at_360) rfl rfl rfl ?_
                      refine own_iload (pc' := 364) X47 hx (hb hby at_362) rfl rfl ?_
                      refine own_bipush (pc' := 366) X47 hx (6 : Int32) (hb hby at_364) rfl rfl ?_
                      refine own_callS (pc' := 369) (W := 0) (y := (⟨"com/example/steerage/steerage/agent/HttpHeadEndPinLaw", "full", "([BII)Z"⟩ : MethodName)) X47 hx hZ hown (own_w hw 6 rfl) (own_w hw 7 rfl) (own_w hw 3 rfl) (own_w hw 8 rfl) (by decide) (conF6 l Z a0 hw b1 v18 _ _ [r2, r4, r6, r8, r10, r12, r14, r16] V17 hl.1) e47 pd0 [(.ref b1), (.int v18), (.int (6 : Int32))] [] rfl rfl rfl (Nat.le_of_eq rfl) (by decide) (by decide) (by rw [hml]; rfl) (hb hby at_366) (by decide) (by decide) rfl ?_
                      intro v48 T48 L48 X48 q48
                      obtain ⟨r48, rfl, hr48, rfl, e48⟩ := q48
                      have N48 := Fr.app N47 (Fr.nil n0)
                      show own_WP _ _ _ _ _ _ _ (T48.setTop (mkF m 369 #[.val (.int p0), .val (.long p1), .second, .val (.int p2), .val (.ref b1), .val (.int v18), .val (.int je5), .val (.int jz5)] [(.int r48)]))
                      refine own_if_eq (pt := 375) (pf := 372) X48 hx (hb hby at_369) rfl (by decide) rfl (fun hc369 => ?_) (fun hc369 => ?_)
                      · skip
                        exact J375 ⟨T48, je5, jz5⟩ ⟨_, X48, N48, e48, by { have qf := own_bb0 hr48 hc369; have st := (own_InvStep (k := 7) (by decide) (by decide) hj334 hc336).2 (fun q => own_bb0 hr47 hc353 q.2); rw [if_neg qf] at st; exact st }⟩
                      · skip
                        refine own_iconst (pc' := 373) X48 hx (1 : Int32) (hb hby at_372) rfl rfl ?_
                        refine own_istore (pc' := 375) (l' := #[.val (.int p0), .val (.long p1), .second, .val (.int p2), .val (.ref b1), .val (.int v18), .val (.int je5), .val (.int (1 : Int32))]) X48 hx (hb hby at_373) rfl rfl rfl ?_
                        exact J375 ⟨T48, je5, (1 : Int32)⟩ ⟨_, X48, N48, e48, by { have qf := own_bb1 hr48 hc369; have st := (own_InvStep (k := 7) (by decide) (by decide) hj334 hc336).2 (fun q => own_bb0 hr47 hc353 q.2); rw [if_pos qf] at st; exact st }⟩
                    · skip
                      refine own_bipush (pc' := 358) X47 hx (7 : Int32) (hb hby at_356) rfl rfl ?_
                      refine own_istore (pc' := 360) (l' := #[.val (.int p0), .val (.long p1), .second, .val (.int p2), .val (.ref b1), .val (.int v18), .val (.int (7 : Int32)), .val (.int jz5)]) X47 hx (hb hby at_358) rfl rfl rfl ?_
                      refine own_aload (pc' := 362) X47 hx (hb hby at_360) rfl rfl rfl ?_
                      refine own_iload (pc' := 364) X47 hx (hb hby at_362) rfl rfl ?_
                      refine own_bipush (pc' := 366) X47 hx (6 : Int32) (hb hby at_364) rfl rfl ?_
                      refine own_callS (pc' := 369) (W := 0) (y := (⟨"com/example/steerage/steerage/agent/HttpHeadEndPinLaw", "full", "([BII)Z"⟩ : MethodName)) X47 hx hZ hown (own_w hw 6 rfl) (own_w hw 7 rfl) (own_w hw 3 rfl) (own_w hw 8 rfl) (by decide) (conF6 l Z a0 hw b1 v18 _ _ [r2, r4, r6, r8, r10, r12, r14, r16] V17 hl.1) e47 pd0 [(.ref b1), (.int v18), (.int (6 : Int32))] [] rfl rfl rfl (Nat.le_of_eq rfl) (by decide) (by decide) (by rw [hml]; rfl) (hb hby at_366) (by decide) (by decide) rfl ?_
                      intro v49 T49 L49 X49 q49
                      obtain ⟨r49, rfl, hr49, rfl, e49⟩ := q49
                      have N49 := Fr.app N47 (Fr.nil n0)
                      show own_WP _ _ _ _ _ _ _ (T49.setTop (mkF m 369 #[.val (.int p0), .val (.long p1), .second, .val (.int p2), .val (.ref b1), .val (.int v18), .val (.int (7 : Int32)), .val (.int jz5)] [(.int r49)]))
                      refine own_if_eq (pt := 375) (pf := 372) X49 hx (hb hby at_369) rfl (by decide) rfl (fun hc369 => ?_) (fun hc369 => ?_)
                      · skip
                        exact J375 ⟨T49, (7 : Int32), jz5⟩ ⟨_, X49, N49, e49, by { have qb := own_bb1 hr47 hc353; exact (own_InvStep (k := 7) (by decide) (by decide) hj334 hc336).1 hc341 qb.1 qb.2 _ }⟩
                      · skip
                        refine own_iconst (pc' := 373) X49 hx (1 : Int32) (hb hby at_372) rfl rfl ?_
                        refine own_istore (pc' := 375) (l' := #[.val (.int p0), .val (.long p1), .second, .val (.int p2), .val (.ref b1), .val (.int v18), .val (.int (7 : Int32)), .val (.int (1 : Int32))]) X49 hx (hb hby at_373) rfl rfl rfl ?_
                        exact J375 ⟨T49, (7 : Int32), (1 : Int32)⟩ ⟨_, X49, N49, e49, by { have qb := own_bb1 hr47 hc353; exact (own_InvStep (k := 7) (by decide) (by decide) hj334 hc336).1 hc341 qb.1 qb.2 _ }⟩
              · obtain ⟨T50, je6, jz6⟩ := x
                obtain ⟨L50, X50, N50, e50, hj375⟩ := hx375
                have hj375 : own_Inv (own_at [r2, r4, r6, r8, r10, r12, r14, r16]) v18.toInt.toNat RR 7 je6 jz6 := hj375
                have e50 : T50.heap = h17 := e50
                show own_WP _ _ _ _ _ _ _ (T50.setTop (mkF m 375 #[.val (.int p0), .val (.long p1), .second, .val (.int p2), .val (.ref b1), .val (.int v18), .val (.int je6), .val (.int jz6)] []))
                refine own_iload (pc' := 377) X50 hx (hb hby at_375) rfl rfl ?_
                refine own_join (fun x : State × Int32 × Int32 => ∃ L', Stand p l e room_1 s m #[(.int p0), (.long p1), (.int p2)] below meth c x.1 L' 1 8 ∧ Fr n0 L' ∧ x.1.heap = h17 ∧ own_Inv (own_at [r2, r4, r6, r8, r10, r12, r14, r16]) v18.toInt.toNat RR 8 x.2.1 x.2.2) (fun x => x.1.setTop (mkF m 416 #[.val (.int p0), .val (.long p1), .second, .val (.int p2), .val (.ref b1), .val (.int v18), .val (.int x.2.1), .val (.int x.2.2)] [])) (fun J416 => ?_) (fun x hx416 => ?_)
                · skip
                  refine own_if_ge (pt := 416) (pf := 380) X50 hx (hb hby at_377) rfl (by decide) rfl (fun hc377 => ?_) (fun hc377 => ?_)
                  · skip
                    exact J416 ⟨T50, je6, jz6⟩ ⟨_, X50, N50, e50, own_InvKeep hj375 hc377 _⟩
                  · skip
                    refine own_iload (pc' := 382) X50 hx (hb hby at_380) rfl rfl ?_
                    refine own_if_eq (pt := 401) (pf := 385) X50 hx (hb hby at_382) rfl (by decide) rfl (fun hc382 => ?_) (fun hc382 => ?_)
                    · skip
                      refine own_aload (pc' := 403) X50 hx (hb hby at_401) rfl rfl rfl ?_
                      refine own_iload (pc' := 405) X50 hx (hb hby at_403) rfl rfl ?_
                      refine own_bipush (pc' := 407) X50 hx (7 : Int32) (hb hby at_405) rfl rfl ?_
                      refine own_callS (pc' := 410) (W := 0) (y := (⟨"com/example/steerage/steerage/agent/HttpHeadEndPinLaw", "full", "([BII)Z"⟩ : MethodName)) X50 hx hZ hown (own_w hw 6 rfl) (own_w hw 7 rfl) (own_w hw 3 rfl) (own_w hw 8 rfl) (by decide) (conF7 l Z a0 hw b1 v18 _ _ [r2, r4, r6, r8, r10, r12, r14, r16] V17 hl.1) e50 pd0 [(.ref b1), (.int v18), (.int (7 : Int32))] [] rfl rfl rfl (Nat.le_of_eq rfl) (by decide) (by decide) (by rw [hml]; rfl) (hb hby at_407) (by decide) (by decide) rfl ?_
                      intro v51 T51 L51 X51 q51
                      obtain ⟨r51, rfl, hr51, rfl, e51⟩ := q51
                      have N51 := Fr.app N50 (Fr.nil n0)
                      show own_WP _ _ _ _ _ _ _ (T51.setTop (mkF m 410 #[.val (.int p0), .val (.long p1), .second, .val (.int p2), .val (.ref b1), .val (.int v18), .val (.int je6), .val (.int jz6)] [(.int r51)]))
                      refine own_if_eq (pt := 416) (pf := 413) X51 hx (hb hby at_410) rfl (by decide) rfl (fun hc410 => ?_) (fun hc410 => ?_)
                      · skip
                        exact J416 ⟨T51, je6, jz6⟩ ⟨_, X51, N51, e51, by { have qf := own_bb0 hr51 hc410; have st := (own_InvStep (k := 8) (by decide) (by decide) hj375 hc377).2 (fun q => q.1 hc382); rw [if_neg qf] at st; exact st }⟩
                      · skip
                        refine own_iconst (pc' := 414) X51 hx (1 : Int32) (hb hby at_413) rfl rfl ?_
                        refine own_istore (pc' := 416) (l' := #[.val (.int p0), .val (.long p1), .second, .val (.int p2), .val (.ref b1), .val (.int v18), .val (.int je6), .val (.int (1 : Int32))]) X51 hx (hb hby at_414) rfl rfl rfl ?_
                        exact J416 ⟨T51, je6, (1 : Int32)⟩ ⟨_, X51, N51, e51, by { have qf := own_bb1 hr51 hc410; have st := (own_InvStep (k := 8) (by decide) (by decide) hj375 hc377).2 (fun q => q.1 hc382); rw [if_pos qf] at st; exact st }⟩
                    · skip
                      refine own_aload (pc' := 387) X50 hx (hb hby at_385) rfl rfl rfl ?_
                      refine own_iload (pc' := 389) X50 hx (hb hby at_387) rfl rfl ?_
                      refine own_bipush (pc' := 391) X50 hx (7 : Int32) (hb hby at_389) rfl rfl ?_
                      refine own_callS (pc' := 394) (W := 0) (y := (⟨"com/example/steerage/steerage/agent/HttpHeadEndPinLaw", "blank", "([BII)Z"⟩ : MethodName)) X50 hx hZ hown (own_w hw 22 rfl) (own_w hw 23 rfl) (own_w hw 3 rfl) (own_w hw 24 rfl) (by decide) (conB7 l Z a0 hw b1 v18 _ _ [r2, r4, r6, r8, r10, r12, r14, r16] V17 hl.1) e50 pd0 [(.ref b1), (.int v18), (.int (7 : Int32))] [] rfl rfl rfl (Nat.le_of_eq rfl) (by decide) (by decide) (by rw [hml]; rfl) (hb hby at_391) (by decide) (by decide) rfl ?_
                      intro v52 T52 L52 X52 q52
                      obtain ⟨r52, rfl, hr52, rfl, e52⟩ := q52
                      have N52 := Fr.app N50 (Fr.nil n0)
                      show own_WP _ _ _ _ _ _ _ (T52.setTop (mkF m 394 #[.val (.int p0), .val (.long p1), .second, .val (.int p2), .val (.ref b1), .val (.int v18), .val (.int je6), .val (.int jz6)] [(.int r52)]))
                      refine own_if_eq (pt := 401) (pf := 397) X52 hx (hb hby at_394) rfl (by decide) rfl (fun hc394 => ?_) (fun hc394 => ?_)
                      · skip
                        refine own_aload (pc' := 403) X52 hx (hb hby at_401) rfl rfl rfl ?_
                        refine own_iload (pc' := 405) X52 hx (hb hby at_403) rfl rfl ?_
                        refine own_bipush (pc' := 407) X52 hx (7 : Int32) (hb hby at_405) rfl rfl ?_
                        refine own_callS (pc' := 410) (W := 0) (y := (⟨"com/example/steerage/steerage/agent/HttpHeadEndPinLaw", "full", "([BII)Z"⟩ : MethodName)) X52 hx hZ hown (own_w hw 6 rfl) (own_w hw 7 rfl) (own_w hw 3 rfl) (own_w hw 8 rfl) (by decide) (conF7 l Z a0 hw b1 v18 _ _ [r2, r4, r6, r8, r10, r12, r14, r16] V17 hl.1) e52 pd0 [(.ref b1), (.int v18), (.int (7 : Int32))] [] rfl rfl rfl (Nat.le_of_eq rfl) (by decide) (by decide) (by rw [hml]; rfl) (hb hby at_407) (by decide) (by decide) rfl ?_
                        intro v53 T53 L53 X53 q53
                        obtain ⟨r53, rfl, hr53, rfl, e53⟩ := q53
                        have N53 := Fr.app N52 (Fr.nil n0)
                        show own_WP _ _ _ _ _ _ _ (T53.setTop (mkF m 410 #[.val (.int p0), .val (.long p1), .second, .val (.int p2), .val (.ref b1), .val (.int v18), .val (.int je6), .val (.int jz6)] [(.int r53)]))
                        refine own_if_eq (pt := 416) (pf := 413) X53 hx (hb hby at_410) rfl (by decide) rfl (fun hc410 => ?_) (fun hc410 => ?_)
                        · skip
                          exact J416 ⟨T53, je6, jz6⟩ ⟨_, X53, N53, e53, by { have qf := own_bb0 hr53 hc410; have st := (own_InvStep (k := 8) (by decide) (by decide) hj375 hc377).2 (fun q => own_bb0 hr52 hc394 q.2); rw [if_neg qf] at st; exact st }⟩
                        · skip
                          refine own_iconst (pc' := 414) X53 hx (1 : Int32) (hb hby at_413) rfl rfl ?_
                          refine own_istore (pc' := 416) (l' := #[.val (.int p0), .val (.long p1), .second, .val (.int p2), .val (.ref b1), .val (.int v18), .val (.int je6), .val (.int (1 : Int32))]) X53 hx (hb hby at_414) rfl rfl rfl ?_
                          exact J416 ⟨T53, je6, (1 : Int32)⟩ ⟨_, X53, N53, e53, by { have qf := own_bb1 hr53 hc410; have st := (own_InvStep (k := 8) (by decide) (by decide) hj375 hc377).2 (fun q => own_bb0 hr52 hc394 q.2); rw [if_pos qf] at st; exact st }⟩
                      · skip
                        refine own_bipush (pc' := 399) X52 hx (8 : Int32) (hb hby at_397) rfl rfl ?_
                        refine own_istore (pc' := 401) (l' := #[.val (.int p0), .val (.long p1), .second, .val (.int p2), .val (.ref b1), .val (.int v18), .val (.int (8 : Int32)), .val (.int jz6)]) X52 hx (hb hby at_399) rfl rfl rfl ?_
                        refine own_aload (pc' := 403) X52 hx (hb hby at_401) rfl rfl rfl ?_
                        refine own_iload (pc' := 405) X52 hx (hb hby at_403) rfl rfl ?_
                        refine own_bipush (pc' := 407) X52 hx (7 : Int32) (hb hby at_405) rfl rfl ?_
                        refine own_callS (pc' := 410) (W := 0) (y := (⟨"com/example/steerage/steerage/agent/HttpHeadEndPinLaw", "full", "([BII)Z"⟩ : MethodName)) X52 hx hZ hown (own_w hw 6 rfl) (own_w hw 7 rfl) (own_w hw 3 rfl) (own_w hw 8 rfl) (by decide) (conF7 l Z a0 hw b1 v18 _ _ [r2, r4, r6, r8, r10, r12, r14, r16] V17 hl.1) e52 pd0 [(.ref b1), (.int v18), (.int (7 : Int32))] [] rfl rfl rfl (Nat.le_of_eq rfl) (by decide) (by decide) (by rw [hml]; rfl) (hb hby at_407) (by decide) (by decide) rfl ?_
                        intro v54 T54 L54 X54 q54
                        obtain ⟨r54, rfl, hr54, rfl, e54⟩ := q54
                        have N54 := Fr.app N52 (Fr.nil n0)
                        show own_WP _ _ _ _ _ _ _ (T54.setTop (mkF m 410 #[.val (.int p0), .val (.long p1), .second, .val (.int p2), .val (.ref b1), .val (.int v18), .val (.int (8 : Int32)), .val (.int jz6)] [(.int r54)]))
                        refine own_if_eq (pt := 416) (pf := 413) X54 hx (hb hby at_410) rfl (by decide) rfl (fun hc410 => ?_) (fun hc410 => ?_)
                        · skip
                          exact J416 ⟨T54, (8 : Int32), jz6⟩ ⟨_, X54, N54, e54, by { have qb := own_bb1 hr52 hc394; exact (own_InvStep (k := 8) (by decide) (by decide) hj375 hc377).1 hc382 qb.1 qb.2 _ }⟩
                        · skip
                          refine own_iconst (pc' := 414) X54 hx (1 : Int32) (hb hby at_413) rfl rfl ?_
                          refine own_istore (pc' := 416) (l' := #[.val (.int p0), .val (.long p1), .second, .val (.int p2), .val (.ref b1), .val (.int v18), .val (.int (8 : Int32)), .val (.int (1 : Int32))]) X54 hx (hb hby at_414) rfl rfl rfl ?_
                          exact J416 ⟨T54, (8 : Int32), (1 : Int32)⟩ ⟨_, X54, N54, e54, by { have qb := own_bb1 hr52 hc394; exact (own_InvStep (k := 8) (by decide) (by decide) hj375 hc377).1 hc382 qb.1 qb.2 _ }⟩
                · obtain ⟨T55, je7, jz7⟩ := x
                  obtain ⟨L55, X55, N55, e55, hj416⟩ := hx416
                  have hj416 : own_Inv (own_at [r2, r4, r6, r8, r10, r12, r14, r16]) v18.toInt.toNat RR 8 je7 jz7 := hj416
                  have e55 : T55.heap = h17 := e55
                  show own_WP _ _ _ _ _ _ _ (T55.setTop (mkF m 416 #[.val (.int p0), .val (.long p1), .second, .val (.int p2), .val (.ref b1), .val (.int v18), .val (.int je7), .val (.int jz7)] []))
                  refine own_aload (pc' := 418) X55 hx (hb hby at_416) rfl rfl rfl ?_
                  refine own_iload (pc' := 420) X55 hx (hb hby at_418) rfl rfl ?_
                  refine own_callS (pc' := 423) (W := 0) (y := (⟨"com/example/steerage/steerage/agent/HttpHead", "end", "([BI)I"⟩ : MethodName)) X55 hx hZ hown (own_w hw 15 rfl) (own_w hw 16 rfl) (own_w hw 17 rfl) (own_w hw 18 rfl) (by decide) (conE l Z a0 hw b1 v18 _ _ [r2, r4, r6, r8, r10, r12, r14, r16] V17 hl.1 hl.2) e55 pd4 [(.ref b1), (.int v18)] [] rfl rfl rfl (Nat.le_of_eq rfl) (by decide) (by decide) (by rw [hml]; rfl) (hb hby at_420) (by decide) (by decide) rfl ?_
                  intro v56 T56 L56 X56 q56
                  obtain ⟨r56, rfl, hr56, rfl, e56⟩ := q56
                  have N56 := Fr.app N55 (Fr.nil n0)
                  show own_WP _ _ _ _ _ _ _ (T56.setTop (mkF m 423 #[.val (.int p0), .val (.long p1), .second, .val (.int p2), .val (.ref b1), .val (.int v18), .val (.int je7), .val (.int jz7)] [(.int r56)]))
                  refine own_iload (pc' := 425) X56 hx (hb hby at_423) rfl rfl ?_
                  refine own_icmp_ne (pt := 432) (pf := 428) X56 hx (hb hby at_425) rfl (by decide) rfl (fun hc425 => absurd (Int32.toInt_inj.mp (by rw [hr56, ← hRR]; exact (own_InvEnd hj416).symm)) hc425) (fun hc425 => ?_)
                  refine own_iconst (pc' := 429) X56 hx (1 : Int32) (hb hby at_428) rfl rfl ?_
                  refine own_goto (pc' := 433) X56 hx (hb hby at_429) (by decide) rfl ?_
                  refine own_retN X56 hx hlk (t := .boolean) (by decide) hret (hb hby at_433) (by decide) (by decide) ?_
                  exact ⟨rfl, N56⟩
set_option maxRecDepth 65536 in
set_option maxHeartbeats 4000000 in
theorem comes_1 {Post : Tables → Env → Array Value → Jvm.State → Outcome → Jvm.State → Prop} (hpost : ∀ tb e args s v u, (limb_1_1.after args s (.returned v) u = true ∧ limb_1_2.after args s (.returned v) u = true ∧ True) → FrameEnd s (.returned v) u (Jvm.fieldLocs frame_1_writes args s ++ Jvm.arrayLocs frame_1_arrays args s ++ Jvm.staticLocs frame_1_statics s) 16 128 → Post tb e args s (.returned v) u) :
    ArmFor flags0 classFile x code maxLocals ret World_1 tables_1 room_1 Calls_1 rest_1 Pre_1 Post := by
  intro l hfl _ _ p e ha hc hk s m args below hf hA hF happ hP
  obtain ⟨hcalls, hrest, hpre⟩ := hP
  obtain ⟨-, -, -, hnamed, -, -, -, hat⟩ := (Spec.applies_iff hf).mp happ
  obtain ⟨hg, hn⟩ := and_e (Cond.before_iff.mp (show (Jvm.Cond.and given_1 narrow_1).before args s = true from hpre))
  obtain ⟨u1, u2⟩ := and_e hg
  obtain ⟨u3, u4⟩ := and_e u2
  obtain ⟨u5, u6⟩ := and_e u4
  obtain ⟨w0, w1, w2, rfl⟩ : ∃ w0 w1 w2 : Value, args = #[w0, w1, w2] := by
    have hs : args.size = 3 := by simpa [Cond.value, given_1] using u1
    obtain ⟨L⟩ := args
    match L, hs with
    | [w0, w1, w2], _ => exact ⟨w0, w1, w2, rfl⟩
  have hw := fun d (hd : d ∈ tables_1) => atoms_spec (ws := Jvm.Cond.code x code maxLocals ret :: tables_1) hat d (List.mem_cons_of_mem _ hd)
  obtain ⟨i0, ei0⟩ := is_v u3
  obtain rfl : w0 = (.int i0) := Option.some.inj ei0
  obtain ⟨i1, ei1⟩ := isL_v u5
  obtain rfl : w1 = (.long i1) := Option.some.inj ei1
  obtain ⟨i2, ei2⟩ := is_v u6
  obtain rfl : w2 = (.int i2) := Option.some.inj ei2
  obtain ⟨n, o, h1, h2, h3, _, L, rfl, ⟨rfl, N⟩, hq⟩ := con0 l s _ hw i0 i1 i2 s.heap s.heap.size (Nat.le_refl _)  tables_1 p e ha hc hk s m _ below hf ((Spec.applies_iff_loose hf).mp happ).1 ⟨rfl, State.Warmed39.refl s, rfl⟩ trivial
  refine ⟨n, _, h1, h2, h3, hpost _ _ _ _ _ _ ⟨Cond.after_iff.mpr rfl, Cond.after_iff.mpr (eq_i res_at (Term.int_eval (1)) rfl), trivial⟩ ⟨hq.1, hq.2.1, (hq.2.2.sift fun y hy => Or.inr (N y hy)).mono (by decide) (by decide)⟩⟩
theorem main_1_1 : Claimed_1_1 := comes_1 fun _ _ _ _ _ _ h hF => ⟨h.1, hF⟩
theorem main_1_2 : Claimed_1_2 := comes_1 fun _ _ _ _ _ _ h hF => ⟨h.2.1, hF⟩
end Jvm.Pilot.@@N@@
namespace Jvm.Pilot.@@N@@
open Jvm Jvm.ClassFile Sem Op Lib Jvm.Free Jvm.Stand Jvm.Pilot.@@N@@.Jvm.D
/-! MADE BY PROGRAM (witnessworld.py) out of the Statement's table words and the real class files: 10 classes; the members and pool entries that the words name. The judged class is class 1, her method 6. -/
namespace start1
open Jvm.ClassFile
def u (s : String) : CpInfo := .utf8 (stringToUtf16 s)
/-- a pool by its gaps: so many unusable entries, then the entry; so many at the end -/
def gap : Nat → List CpInfo → List CpInfo
  | 0, r => r
  | n + 1, r => .unusable :: gap n r
def poolList (es : List (Nat × CpInfo)) (last : Nat) : List CpInfo := es.foldr (fun e r => gap e.1 (e.2 :: r)) (gap last [])
def pool (es : List (Nat × CpInfo)) (last : Nat) : Array CpInfo := ⟨poolList es last⟩
def fileOf (pool : Array CpInfo) (this : Nat) (attrs : Array Attribute := #[]) (ms : Array MethodInfo := #[]) (fl : Nat := 33) (sup : Nat := 0) (ifs : Array Nat := #[]) (fds : Array FieldInfo := #[]) : ClassFile where
  minorVersion := 0
  majorVersion := 65
  constantPool := pool
  accessFlags := fl
  thisClass := this
  superClass := sup
  interfaces := ifs
  fields := fds
  methods := ms
  attributes := attrs
def plain (name : String) (sup : Option ClassId) : Class where
  name := name
  kind := .ordinary
  loader := none
  accessFlags := 33
  super := sup
  interfaces := #[]
  cf := none
  fields := #[]
  methods := #[]
  instanceTypes := #[]
  staticTypes := #[]
  resolved := #[]
  callSites := []
  init := .initialized
  statics := none
  mirror := none

def pool0 : Array CpInfo := pool [(5, u "<init>"), (0, u "()V"), (1, .class_ 10), (1, u "java/lang/Object")] 113

def k0m0 : Method := { name := "<init>", desc := "()V", sig := { parameters := [], returnType := none }, accessFlags := 1, code := none }
/-- java/lang/Object -/
def k0 : Class := { plain "java/lang/Object" none with
  accessFlags := 33
  interfaces := #[]
  cf := some (fileOf pool0 8 #[] #[{ accessFlags := 1, nameIndex := 5, descriptorIndex := 6, attributes := #[] }] 33 0 #[] #[])
  fields := #[]
  methods := #[k0m0]
  instanceTypes := #[]
  staticTypes := #[]
  resolved := Array.replicate 124 none
  statics := none }

def pool1 : Array CpInfo := pool [(2, .class_ 4), (1, u "java/lang/Object"), (0, u "<init>"), (0, u "()V"), (0, .methodref 8 9), (0, .class_ 10), (0, .nameAndType 11 12), (0, u "com/example/steerage/steerage/agent/HttpHeadEndPinLaw"), (0, u "lf"), (0, u "([BII)Z"), (0, .methodref 8 14), (0, .nameAndType 15 16), (0, u "emptyAt"), (0, u "([BI)Z"), (0, .methodref 8 18), (0, .nameAndType 19 20), (0, u "pick"), (0, u "(IJI)B"), (0, .integer 2147483647), (0, .methodref 8 23), (0, .nameAndType 24 12), (0, u "blank"), (0, .methodref 8 26), (0, .nameAndType 27 12), (0, u "full"), (0, .methodref 29 30), (0, .class_ 31), (0, .nameAndType 32 33), (0, u "com/example/steerage/steerage/agent/HttpHead"), (0, u "end"), (0, u "([BI)I"), (3, u "law"), (0, u "(IJI)Z")] 4

def k1m0 : Method := { name := "<init>", desc := "()V", sig := { parameters := [], returnType := none }, accessFlags := 1, code := none }
def k1c1 : Code := { maxStack := 4, maxLocals := 5, code := method_2_code, exceptionTable := #[], attributes := #[] }
def k1m1 : Method := { name := "pick", desc := "(IJI)B", sig := { parameters := [.int, .long, .int], returnType := some .byte }, accessFlags := 10, code := some k1c1 }
def k1c2 : Code := { maxStack := 2, maxLocals := 3, code := method_3_code, exceptionTable := #[], attributes := #[] }
def k1m2 : Method := { name := "lf", desc := "([BII)Z", sig := { parameters := [(.array .byte), .int, .int], returnType := some .boolean }, accessFlags := 10, code := some k1c2 }
def k1c3 : Code := { maxStack := 3, maxLocals := 2, code := method_4_code, exceptionTable := #[], attributes := #[] }
def k1m3 : Method := { name := "emptyAt", desc := "([BI)Z", sig := { parameters := [(.array .byte), .int], returnType := some .boolean }, accessFlags := 10, code := some k1c3 }
def k1c4 : Code := { maxStack := 3, maxLocals := 3, code := method_5_code, exceptionTable := #[], attributes := #[] }
def k1m4 : Method := { name := "blank", desc := "([BII)Z", sig := { parameters := [(.array .byte), .int, .int], returnType := some .boolean }, accessFlags := 10, code := some k1c4 }
def k1c5 : Code := { maxStack := 3, maxLocals := 3, code := method_6_code, exceptionTable := #[], attributes := #[] }
def k1m5 : Method := { name := "full", desc := "([BII)Z", sig := { parameters := [(.array .byte), .int, .int], returnType := some .boolean }, accessFlags := 10, code := some k1c5 }
def k1c6 : Code := { maxStack := 6, maxLocals := 8, code := code, exceptionTable := #[], attributes := #[] }
def k1m6 : Method := { name := "law", desc := "(IJI)Z", sig := { parameters := [.int, .long, .int], returnType := some .boolean }, accessFlags := 9, code := some k1c6 }
/-- com/example/steerage/steerage/agent/HttpHeadEndPinLaw -/
def k1 : Class := { plain "com/example/steerage/steerage/agent/HttpHeadEndPinLaw" (some 0) with
  accessFlags := 49
  interfaces := #[]
  cf := some (fileOf pool1 8 #[] #[{ accessFlags := 1, nameIndex := 5, descriptorIndex := 6, attributes := #[] }, { accessFlags := 10, nameIndex := 19, descriptorIndex := 20, attributes := #[] }, { accessFlags := 10, nameIndex := 11, descriptorIndex := 12, attributes := #[] }, { accessFlags := 10, nameIndex := 15, descriptorIndex := 16, attributes := #[] }, { accessFlags := 10, nameIndex := 24, descriptorIndex := 12, attributes := #[] }, { accessFlags := 10, nameIndex := 27, descriptorIndex := 12, attributes := #[] }, { accessFlags := 9, nameIndex := 37, descriptorIndex := 38, attributes := #[] }] 49 2 #[] #[])
  fields := #[]
  methods := #[k1m0, k1m1, k1m2, k1m3, k1m4, k1m5, k1m6]
  instanceTypes := #[]
  staticTypes := #[]
  resolved := Array.replicate 43 none
  statics := none }

def pool2 : Array CpInfo := pool [(2, .class_ 4), (1, u "java/lang/Object"), (0, u "<init>"), (0, u "()V"), (0, .class_ 8), (0, u "java/lang/Record")] 13

def k2m0 : Method := { name := "<init>", desc := "()V", sig := { parameters := [], returnType := none }, accessFlags := 4, code := none }
/-- java/lang/Record -/
def k2 : Class := { plain "java/lang/Record" (some 0) with
  accessFlags := 1057
  interfaces := #[]
  cf := some (fileOf pool2 7 #[] #[{ accessFlags := 4, nameIndex := 5, descriptorIndex := 6, attributes := #[] }] 1057 2 #[] #[])
  fields := #[]
  methods := #[k2m0]
  instanceTypes := #[]
  staticTypes := #[]
  resolved := Array.replicate 22 none
  statics := none }

def pool3 : Array CpInfo := pool [(2, .class_ 4), (1, u "java/lang/Record"), (3, .class_ 10), (1, u "com/example/steerage/steerage/agent/HttpHead"), (0, u "method"), (0, u "Ljava/lang/String;"), (2, u "path"), (2, u "version"), (2, u "fields"), (0, u "Ljava/util/Map;"), (12, .class_ 36), (0, u "com/example/steerage/steerage/agent/HttpHead$MalformedException"), (9, u "TOKEN"), (0, u "Ljava/util/regex/Pattern;"), (25, u "VERSION"), (22, .methodref 8 97), (0, .nameAndType 98 99), (0, u "lineEnd"), (0, u "([BII)I"), (143, u "HTTP_1_1"), (1, u "HTTP_1_0"), (10, u "end"), (0, u "([BI)I")] 73

def k3c0 : Code := { maxStack := 3, maxLocals := 6, code := prog_23_method_3_code, exceptionTable := #[], attributes := #[] }
def k3m0 : Method := { name := "end", desc := "([BI)I", sig := { parameters := [(.array .byte), .int], returnType := some .int }, accessFlags := 8, code := some k3c0 }
def k3c1 : Code := { maxStack := 2, maxLocals := 4, code := prog_23_method_4_code, exceptionTable := #[], attributes := #[] }
def k3m1 : Method := { name := "lineEnd", desc := "([BII)I", sig := { parameters := [(.array .byte), .int, .int], returnType := some .int }, accessFlags := 8, code := some k3c1 }
/-- com/example/steerage/steerage/agent/HttpHead -/
def k3 : Class := { plain "com/example/steerage/steerage/agent/HttpHead" (some 2) with
  accessFlags := 48
  interfaces := #[]
  cf := some (fileOf pool3 8 #[.nestMembers #[35]] #[{ accessFlags := 8, nameIndex := 256, descriptorIndex := 257, attributes := #[] }, { accessFlags := 8, nameIndex := 98, descriptorIndex := 99, attributes := #[] }] 48 2 #[] #[{ accessFlags := 18, nameIndex := 11, descriptorIndex := 12, attributes := #[] }, { accessFlags := 18, nameIndex := 15, descriptorIndex := 12, attributes := #[] }, { accessFlags := 18, nameIndex := 18, descriptorIndex := 12, attributes := #[] }, { accessFlags := 18, nameIndex := 21, descriptorIndex := 22, attributes := #[] }, { accessFlags := 26, nameIndex := 243, descriptorIndex := 12, attributes := #[] }, { accessFlags := 26, nameIndex := 245, descriptorIndex := 12, attributes := #[] }, { accessFlags := 26, nameIndex := 46, descriptorIndex := 47, attributes := #[] }, { accessFlags := 26, nameIndex := 73, descriptorIndex := 47, attributes := #[] }])
  fields := #[{ name := "method", type := (.object "java/lang/String"), accessFlags := 18, slot := 0, constantValue := 0 }, { name := "path", type := (.object "java/lang/String"), accessFlags := 18, slot := 1, constantValue := 0 }, { name := "version", type := (.object "java/lang/String"), accessFlags := 18, slot := 2, constantValue := 0 }, { name := "fields", type := (.object "java/util/Map"), accessFlags := 18, slot := 3, constantValue := 0 }, { name := "HTTP_1_1", type := (.object "java/lang/String"), accessFlags := 26, slot := 0, constantValue := 0 }, { name := "HTTP_1_0", type := (.object "java/lang/String"), accessFlags := 26, slot := 1, constantValue := 0 }, { name := "TOKEN", type := (.object "java/util/regex/Pattern"), accessFlags := 26, slot := 2, constantValue := 0 }, { name := "VERSION", type := (.object "java/util/regex/Pattern"), accessFlags := 26, slot := 3, constantValue := 0 }]
  methods := #[k3m0, k3m1]
  instanceTypes := #[(.object "java/lang/String"), (.object "java/lang/String"), (.object "java/lang/String"), (.object "java/util/Map")]
  staticTypes := #[(.object "java/lang/String"), (.object "java/lang/String"), (.object "java/util/regex/Pattern"), (.object "java/util/regex/Pattern")]
  resolved := Array.replicate 331 none
  statics := none }

def pool4 : Array CpInfo := pool [(1, u "java/lang/Cloneable"), (0, .class_ 1), (0, u "java/lang/Object"), (0, .class_ 3)] 3

/-- java/lang/Cloneable -/
def k4 : Class := { plain "java/lang/Cloneable" (some 0) with
  accessFlags := 1537
  interfaces := #[]
  cf := some (fileOf pool4 2 #[] #[] 1537 4 #[] #[])
  fields := #[]
  methods := #[]
  instanceTypes := #[]
  staticTypes := #[]
  resolved := Array.replicate 8 none
  statics := none }

def pool5 : Array CpInfo := pool [(1, u "java/io/Serializable"), (0, .class_ 1), (0, u "java/lang/Object"), (0, .class_ 3)] 3

/-- java/io/Serializable -/
def k5 : Class := { plain "java/io/Serializable" (some 0) with
  accessFlags := 1537
  interfaces := #[]
  cf := some (fileOf pool5 2 #[] #[] 1537 4 #[] #[])
  fields := #[]
  methods := #[]
  instanceTypes := #[]
  staticTypes := #[]
  resolved := Array.replicate 8 none
  statics := none }

/-- the primitive byte -/
def k6 : Class := { plain "byte" none with kind := .primitive 'B', accessFlags := 0x411 }
/-- [B -/
def k7 : Class := { plain "[B" (some 0) with kind := .array 6 .byte, interfaces := #[4, 5], accessFlags := 1041 }

/-- the primitive int -/
def k8 : Class := { plain "int" none with kind := .primitive 'I', accessFlags := 0x411 }
/-- [I -/
def k9 : Class := { plain "[I" (some 0) with kind := .array 8 .int, interfaces := #[4, 5], accessFlags := 1041 }

def heap : Heap := #[]
def classes : Array Class := #[k0, k1, k2, k3, k4, k5, k6, k7, k8, k9]
def interned : List (Array UInt16 × Addr) := []
def slotsUsed : Nat := 0
def theMethod : MethodId := ⟨1, 6⟩
def args0 : Array Value := #[.int 5, .long 3, .int 1]
def aboutOver (below : List Frame) : State where
  vm := { classes := classes, interned := interned.toArray }
  heap := heap
  slotsUsed := slotsUsed
  threads := #[{ frames := .invoking theMethod args0 :: below }]
def below0 : List Frame := [.native { method := ⟨0, 0⟩, args := #[] }]
def about1 : State := aboutOver below0
def p0 : Program := .bare "" "" ""
def e0 : Env := launch0.env 0 0 0
theorem w_frames : about1.frames = Frame.invoking theMethod args0 :: below0 := rfl
set_option maxRecDepth 65536 in
theorem w_args : argsFit about1.vm theMethod args0 = true := by decide +kernel
set_option maxRecDepth 65536 in
theorem w_heap : heapFits about1 = true := by decide +kernel
set_option maxRecDepth 65536 in
theorem w_runnable : about1.curStatus? = some .runnable := by decide +kernel
set_option maxRecDepth 65536 in
theorem w_alone : about1.alone = true := by decide +kernel
set_option maxRecDepth 65536 in
theorem w_named : about1.methodNamed? x = some theMethod := by decide +kernel
set_option maxRecDepth 65536 in
theorem w_hears : about1.hears theMethod below0 = true := by decide +kernel
set_option maxRecDepth 65536 in
theorem w_ripe : about1.ripe theMethod args0 below0 = true := by decide +kernel
theorem w_running : about1.status = .running := rfl
set_option maxRecDepth 65536 in
theorem w_room : about1.hasRoom e0.platform room_1 = true :=
  launch0.hasRoom_least _ room_1 (by decide +kernel) (by decide +kernel) (by decide +kernel) (by decide +kernel) (by decide +kernel) (by decide +kernel)
theorem allAtoms_all (ts : List Jvm.Cond) (a : Array Jvm.Value) (st : Jvm.State) : (allAtoms ts).before a st = ts.all (fun c => c.before a st) := by
  induction ts with
  | nil => rfl
  | cons c t ih =>
    show (Jvm.Cond.and c (allAtoms t)).before a st = _
    rw [Jvm.Cond.before_and, ih, List.all_cons]
def words1 : List Jvm.Cond := Jvm.Cond.code x code maxLocals ret :: tables_1
/-- a 'code' word, met by the world's own term for the bytes: nothing is compared byte by byte -/
theorem code_word {y : MethodName} {bytes : ByteArray} {mx : Nat} {rt : Option FieldType} {a : Array Value} {s : State} {m : MethodId} {meth : Method} {c : Code} (h1 : s.methodNamed? y = some m) (h2 : s.vm.method? m = some meth) (h3 : meth.code = some c) (h4 : c.code = bytes)
    (h5 : (c.maxLocals == mx && c.exceptionTable.isEmpty && decide (c.maxStack ≤ mostOperands) && decide (meth.sig.returnType = rt) && !meth.locks && decide (parseMethodDescriptor y.desc = some meth.sig)) = true) : (Jvm.Cond.code y bytes mx rt).before a s = true := by
  simp only [Bool.and_eq_true, beq_iff_eq, Bool.not_eq_true', decide_eq_true_eq] at h5
  obtain ⟨⟨⟨⟨⟨g1, g2⟩, g3⟩, g4⟩, g5⟩, g6⟩ := h5
  simp [Cond.before, Cond.holds, Cond.value, h1, h2, h3, h4, g1, g2, g3, g4, g5, g6]
def isCode : Jvm.Cond → Bool
  | .code _ _ _ _ => true
  | _ => false
theorem all_split {L : List Jvm.Cond} {P : Jvm.Cond → Bool} (h1 : L.all (fun c => isCode c || P c) = true) (h2 : ∀ c ∈ L.filter isCode, P c = true) : L.all P = true := by
  refine List.all_eq_true.mpr fun c hc => ?_
  have h := List.all_eq_true.mp h1 c hc
  rcases Bool.eq_false_or_eq_true (isCode c) with hi | hi
  · exact h2 c (List.mem_filter.mpr ⟨hc, hi⟩)
  · simpa [hi] using h
set_option maxRecDepth 65536 in
theorem w_c0 : (Jvm.Cond.code x code maxLocals ret).before args0 about1 = true := code_word (m := ⟨1, 6⟩) (meth := k1m6) (c := k1c6) (by decide +kernel) rfl rfl rfl (by decide +kernel)
set_option maxRecDepth 65536 in
theorem w_c1 : (Jvm.Cond.code ({ cls := "com/example/steerage/steerage/agent/HttpHeadEndPinLaw", name := "pick", desc := "(IJI)B" } : Jvm.MethodName) method_2_code (5 : Nat) (Option.some Jvm.ClassFile.FieldType.byte)).before args0 about1 = true := code_word (m := ⟨1, 1⟩) (meth := k1m1) (c := k1c1) (by decide +kernel) rfl rfl rfl (by decide +kernel)
set_option maxRecDepth 65536 in
theorem w_c2 : (Jvm.Cond.code ({ cls := "com/example/steerage/steerage/agent/HttpHeadEndPinLaw", name := "full", desc := "([BII)Z" } : Jvm.MethodName) method_6_code (3 : Nat) (Option.some Jvm.ClassFile.FieldType.boolean)).before args0 about1 = true := code_word (m := ⟨1, 5⟩) (meth := k1m5) (c := k1c5) (by decide +kernel) rfl rfl rfl (by decide +kernel)
set_option maxRecDepth 65536 in
theorem w_c3 : (Jvm.Cond.code ({ cls := "com/example/steerage/steerage/agent/HttpHeadEndPinLaw", name := "lf", desc := "([BII)Z" } : Jvm.MethodName) method_3_code (3 : Nat) (Option.some Jvm.ClassFile.FieldType.boolean)).before args0 about1 = true := code_word (m := ⟨1, 2⟩) (meth := k1m2) (c := k1c2) (by decide +kernel) rfl rfl rfl (by decide +kernel)
set_option maxRecDepth 65536 in
theorem w_c4 : (Jvm.Cond.code ({ cls := "com/example/steerage/steerage/agent/HttpHeadEndPinLaw", name := "emptyAt", desc := "([BI)Z" } : Jvm.MethodName) method_4_code (2 : Nat) (Option.some Jvm.ClassFile.FieldType.boolean)).before args0 about1 = true := code_word (m := ⟨1, 3⟩) (meth := k1m3) (c := k1c3) (by decide +kernel) rfl rfl rfl (by decide +kernel)
set_option maxRecDepth 65536 in
theorem w_c5 : (Jvm.Cond.code ({ cls := "com/example/steerage/steerage/agent/HttpHead", name := "end", desc := "([BI)I" } : Jvm.MethodName) prog_23_method_3_code (6 : Nat) (Option.some Jvm.ClassFile.FieldType.int)).before args0 about1 = true := code_word (m := ⟨3, 0⟩) (meth := k3m0) (c := k3c0) (by decide +kernel) rfl rfl rfl (by decide +kernel)
set_option maxRecDepth 65536 in
theorem w_c6 : (Jvm.Cond.code ({ cls := "com/example/steerage/steerage/agent/HttpHead", name := "lineEnd", desc := "([BII)I" } : Jvm.MethodName) prog_23_method_4_code (4 : Nat) (Option.some Jvm.ClassFile.FieldType.int)).before args0 about1 = true := code_word (m := ⟨3, 1⟩) (meth := k3m1) (c := k3c1) (by decide +kernel) rfl rfl rfl (by decide +kernel)
set_option maxRecDepth 65536 in
theorem w_c7 : (Jvm.Cond.code ({ cls := "com/example/steerage/steerage/agent/HttpHeadEndPinLaw", name := "blank", desc := "([BII)Z" } : Jvm.MethodName) method_5_code (3 : Nat) (Option.some Jvm.ClassFile.FieldType.boolean)).before args0 about1 = true := code_word (m := ⟨1, 4⟩) (meth := k1m4) (c := k1c4) (by decide +kernel) rfl rfl rfl (by decide +kernel)
def codes1 : List Jvm.Cond := [Jvm.Cond.code x code maxLocals ret, Jvm.Cond.code ({ cls := "com/example/steerage/steerage/agent/HttpHeadEndPinLaw", name := "pick", desc := "(IJI)B" } : Jvm.MethodName) method_2_code (5 : Nat) (Option.some Jvm.ClassFile.FieldType.byte), Jvm.Cond.code ({ cls := "com/example/steerage/steerage/agent/HttpHeadEndPinLaw", name := "full", desc := "([BII)Z" } : Jvm.MethodName) method_6_code (3 : Nat) (Option.some Jvm.ClassFile.FieldType.boolean), Jvm.Cond.code ({ cls := "com/example/steerage/steerage/agent/HttpHeadEndPinLaw", name := "lf", desc := "([BII)Z" } : Jvm.MethodName) method_3_code (3 : Nat) (Option.some Jvm.ClassFile.FieldType.boolean), Jvm.Cond.code ({ cls := "com/example/steerage/steerage/agent/HttpHeadEndPinLaw", name := "emptyAt", desc := "([BI)Z" } : Jvm.MethodName) method_4_code (2 : Nat) (Option.some Jvm.ClassFile.FieldType.boolean), Jvm.Cond.code ({ cls := "com/example/steerage/steerage/agent/HttpHead", name := "end", desc := "([BI)I" } : Jvm.MethodName) prog_23_method_3_code (6 : Nat) (Option.some Jvm.ClassFile.FieldType.int), Jvm.Cond.code ({ cls := "com/example/steerage/steerage/agent/HttpHead", name := "lineEnd", desc := "([BII)I" } : Jvm.MethodName) prog_23_method_4_code (4 : Nat) (Option.some Jvm.ClassFile.FieldType.int), Jvm.Cond.code ({ cls := "com/example/steerage/steerage/agent/HttpHeadEndPinLaw", name := "blank", desc := "([BII)Z" } : Jvm.MethodName) method_5_code (3 : Nat) (Option.some Jvm.ClassFile.FieldType.boolean)]
set_option maxRecDepth 65536 in
theorem codes_eq : words1.filter isCode = codes1 := rfl
theorem w_codes : ∀ c ∈ words1.filter isCode, c.before args0 about1 = true := by
  rw [codes_eq]
  intro c hc
  simp only [codes1, List.mem_cons, List.not_mem_nil, or_false] at hc
  rcases hc with rfl | rfl | rfl | rfl | rfl | rfl | rfl | rfl
  · exact w_c0
  · exact w_c1
  · exact w_c2
  · exact w_c3
  · exact w_c4
  · exact w_c5
  · exact w_c6
  · exact w_c7
set_option maxRecDepth 65536 in
theorem w_t1 : (words1.take 24).all (fun c => isCode c || c.before args0 about1) = true := by decide +kernel
set_option maxRecDepth 65536 in
theorem w_t2 : (words1.drop 24).all (fun c => isCode c || c.before args0 about1) = true := by decide +kernel
theorem w_tables : (allAtoms (Jvm.Cond.code x code maxLocals ret :: tables_1)).before args0 about1 = true := by
  rw [allAtoms_all]
  show words1.all (fun c => c.before args0 about1) = true
  refine all_split ?_ w_codes
  rw [← List.take_append_drop 24 words1, List.all_append, w_t1, w_t2]
  rfl
set_option maxRecDepth 65536 in
theorem w_case : (Jvm.Cond.and given_1 narrow_1).before args0 about1 = true := by decide +kernel
theorem w_applies : (headSpec (Jvm.Cond.code x code maxLocals ret :: tables_1) room_1).applies x e0.platform about1 = true :=
  (Spec.applies_iff w_frames).mpr ⟨w_running, w_runnable, w_alone, w_named, w_hears, w_ripe, w_room, w_tables⟩
theorem atStart : AtStart classFile x code maxLocals ret World_1 tables_1 room_1 Calls_1 rest_1 Pre_1 launch0 p0 e0 about1 theMethod args0 below0 :=
  ⟨lists_1, trivial, launch0.admits_env _ _ _, launch0.least_env, fairChoices_fair.cas, fairChoices_fair.clock, w_frames, w_args, w_heap, w_applies, trivial, trivial, w_case⟩
end start1
theorem witness_1 : WitnessClaimed_1 := ⟨start1.p0, start1.e0, start1.about1, start1.theMethod, start1.args0, start1.below0, start1.atStart⟩
end Jvm.Pilot.@@N@@

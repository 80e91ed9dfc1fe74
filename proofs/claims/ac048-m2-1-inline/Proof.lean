import JvmDerived
import JvmDerived.Pilot.@@N@@Statement
import JvmDerived.Pilot.@@N@@Code
set_option linter.unusedVariables false
set_option linter.unusedSimpArgs false
namespace Jvm.Pilot.@@N@@
open Jvm Jvm.ClassFile Sem Op Lib Jvm.Free Jvm.Stand Jvm.LawKit Jvm.RoadKit Bundle Jvm.Pilot.@@N@@.Jvm.D
/-! own_: what is left of a walk, read forwards -/
def own_WP (p : Program) (e : Env) (below : List Frame) (FE : Outcome → State → List Loc → Nat → Nat → Prop) (Q : Option Value → Heap → List Loc → Prop) (k n : Nat) (a : State) : Prop :=
  ∃ s₂ o, Steps p.tables e below a s₂ ∧ s₂.status = .running ∧ Ended s₂ below o ∧ ∃ v L, o = .returned v ∧ Q v s₂.heap L ∧ FE o s₂ L k n
def own_Con (l : Launch) (Z : State) (y : MethodName) (bytes : ByteArray) (maxL : Nat) (ret : Option FieldType) (rm : Room) (as' : Array Value) (h0 : Heap) (Q : Option Value → Heap → List Loc → Prop) : Prop :=
  ∀ ws, MetFree l y (head1 (Jvm.Cond.code y bytes maxL ret :: ws) rm) (fun a U => a = as' ∧ Z.Warmed39 U.vm ∧ U.heap = h0) (fun _ _ _ _ _ => True) (fun _ U o U' => ∃ v L, o = .returned v ∧ Q v U'.heap L ∧ FrameEnd U o U' L rm.cells rm.slots)
theorem own_Con_of {l : Launch} {Z : State} {y : MethodName} {bytes : ByteArray} {maxL : Nat} {ret : Option FieldType} {rm : Room} {as' : Array Value} {h0 : Heap} {Q : Option Value → Heap → List Loc → Prop} (hp : plainFor y = true)
    (hb : ∀ (p : Program) (e : Env) (s : State) (m : MethodId) (below : List Frame) (meth : Method) (c : Code) (s₁ : State), Stand p l e rm s m as' below meth c s₁ [] 0 0 → p.tables.exec = Jvm.exec → c.code = bytes → c.maxLocals = maxL → meth.sig.returnType = ret → meth.locks = false → meth.name = y.name → s.vm.findClass y.cls = some m.cls → Z.Warmed39 s.vm → s₁.heap = h0 →
      own_WP p e below (FrameEnd s) Q rm.cells rm.slots (s₁.setTop (entryFrame m as' maxL))) : own_Con l Z y bytes maxL ret rm as' h0 Q := by
  intro ws
  refine MetFree.of_bodySF hp hisR ?_
  intro p e s m args below meth c s₁ Bd hml0 hP hK
  obtain ⟨rfl, hZ, hh⟩ := hP
  exact hb p e s m below meth c s₁ (Stand.of_body Bd) Bd.exec Bd.bytes hml0 Bd.returns Bd.notSynchronized (name_of_methodNamed Bd.named Bd.method).1 (findClass_of_methodNamed Bd.named) hZ (by rw [← hh, Bd.state]; rfl)
theorem own_w {Z : State} {a0 : Array Value} {ts : List Jvm.Cond} {d : Jvm.Cond} (hw : ∀ d ∈ ts, d.before a0 Z = true) (i : Nat) (hi : ts[i]? = some d) : d.before a0 Z = true := hw _ (List.mem_of_getElem? hi)
section OwnWP
variable {p : Program} {l : Launch} {e : Env} {R : Room} {s : State} {m : MethodId} {args : Array Value} {below : List Frame} {meth : Method} {c : Code} {T : State} {locs : List Loc} {cells slots : Nat} {Z : State} {a0 : Array Value} {h : Heap} {Q : Option Value → Heap → List Loc → Prop} {FE : Outcome → State → List Loc → Nat → Nat → Prop} {k n : Nat} {a a' : State} {pc pc' : Nat} {ls l' : Array Slot} {rest : List Value}
theorem own_of (hs : ∀ t, Steps p.tables e below a' t → Steps p.tables e below a t) (w : own_WP p e below FE Q k n a') : own_WP p e below FE Q k n a := by
  obtain ⟨s₂, o, st, r⟩ := w
  exact ⟨s₂, o, hs _ st, r⟩
theorem own_join {α : Type} (P : α → Prop) (f : α → State) (h1 : (∀ x, P x → own_WP p e below FE Q k n (f x)) → own_WP p e below FE Q k n a) (h2 : ∀ x, P x → own_WP p e below FE Q k n (f x)) : own_WP p e below FE Q k n a := h1 h2
theorem own_done (X : Stand p l e R s m args below meth c T locs cells slots) {v : Option Value} (hF : ∀ o s₂ L, s₂.heap = T.heap → FrameEnd s o s₂ L k n → FE o s₂ L k n) (hlk : meth.locks = false) (hv : meth.sig.returnType = none → v = none) (hc : cells ≤ k) (hn : slots ≤ n) (hq : Q v T.heap locs)
    (st : ∀ fs, (∀ (f : JFrame) (acts : List Action), f.method = m → f.locked = none → f.entered = [] → (doReturn e (T.setTop f) acts v).1 = T.setFrames fs) → Steps p.tables e below a (T.setFrames fs)) : own_WP p e below FE Q k n a := by
  obtain ⟨fs, hr, hrun, hended, hW, hsame⟩ := X.leave hv hlk
  exact ⟨_, _, st fs hr, hrun, hended, _, _, rfl, hq, hF _ _ _ rfl ⟨⟨_, rfl⟩, hW, hsame.mono hc hn⟩⟩
theorem own_retI (X : Stand p l e R s m args below meth c T locs cells slots) (hx : p.tables.exec = Jvm.exec) (hF : ∀ o s₂ L, s₂.heap = T.heap → FrameEnd s o s₂ L k n → FE o s₂ L k n) (hlk : meth.locks = false) (hret : meth.sig.returnType = some .int) {z : Int32} (hd : decode c.code pc = .ok (.ireturn, 1)) (hc : cells ≤ k) (hn : slots ≤ n) (hq : Q (some (.int z)) T.heap locs) : own_WP p e below FE Q k n (T.setTop (mkF m pc ls (.int z :: rest))) :=
  own_done X hF hlk (fun q => by rw [hret] at q; cases q) hc hn hq fun fs hr => retOut X hx hret rfl (Or.inl ⟨rfl, Or.inl rfl, z, rfl⟩) hd hr
theorem own_retN (X : Stand p l e R s m args below meth c T locs cells slots) (hx : p.tables.exec = Jvm.exec) (hF : ∀ o s₂ L, s₂.heap = T.heap → FrameEnd s o s₂ L k n → FE o s₂ L k n) (hlk : meth.locks = false) {t : FieldType} (ht : t = .boolean ∨ t = .byte ∨ t = .char ∨ t = .short) (hret : meth.sig.returnType = some t) {z : Int32} (hd : decode c.code pc = .ok (.ireturn, 1)) (hc : cells ≤ k) (hn : slots ≤ n) (hq : Q (some (.int (nar t z))) T.heap locs) : own_WP p e below FE Q k n (T.setTop (mkF m pc ls (.int z :: rest))) :=
  own_done X hF hlk (fun q => by rw [hret] at q; cases q) hc hn hq fun fs hr => retN X hx hret ht hd hr
theorem own_retA (X : Stand p l e R s m args below meth c T locs cells slots) (hx : p.tables.exec = Jvm.exec) (hF : ∀ o s₂ L, s₂.heap = T.heap → FrameEnd s o s₂ L k n → FE o s₂ L k n) (hlk : meth.locks = false) {t : FieldType} (ht : t.isReference = true) (hret : meth.sig.returnType = some t) {w : Value} (hw : w.isRef = true) (hnw : narrow t w = w) (hd : decode c.code pc = .ok (.areturn, 1)) (hc : cells ≤ k) (hn : slots ≤ n) (hq : Q (some w) T.heap locs) : own_WP p e below FE Q k n (T.setTop (mkF m pc ls (w :: rest))) :=
  own_done X hF hlk (fun q => by rw [hret] at q; cases q) hc hn hq fun fs hr => retOut X hx hret hnw (Or.inr (Or.inr (Or.inr (Or.inr ⟨rfl, ht, hw⟩)))) hd hr
theorem own_ret0 (X : Stand p l e R s m args below meth c T locs cells slots) (hx : p.tables.exec = Jvm.exec) (hF : ∀ o s₂ L, s₂.heap = T.heap → FrameEnd s o s₂ L k n → FE o s₂ L k n) (hlk : meth.locks = false) (hret : meth.sig.returnType = none) (hd : decode c.code pc = .ok (.return_, 1)) (hc : cells ≤ k) (hn : slots ≤ n) (hq : Q none T.heap locs) : own_WP p e below FE Q k n (T.setTop (mkF m pc ls [])) :=
  own_done X hF hlk (fun _ => rfl) hc hn hq fun fs hr => X.returnOut hx hret hd hr
theorem own_iload (X : Stand p l e R s m args below meth c T locs cells slots) (hx : p.tables.exec = Jvm.exec) {j : Nat} {v : Int32} (hd : decode c.code pc = .ok (.iload j, 2)) (hl : ls[j]? = some (.val (.int v))) (hpc : pc + 2 = pc') (w : own_WP p e below FE Q k n (T.setTop (mkF m pc' ls (.int v :: rest)))) : own_WP p e below FE Q k n (T.setTop (mkF m pc ls rest)) := by
  subst hpc
  exact own_of (fun t q => XS.iload X.here hx rfl hd hl q) w
theorem own_iloadN (X : Stand p l e R s m args below meth c T locs cells slots) (hx : p.tables.exec = Jvm.exec) {j : Fin 4} {v : Int32} (hd : decode c.code pc = .ok (.iload_n j, 1)) (hl : ls[j.val]? = some (.val (.int v))) (hpc : pc + 1 = pc') (w : own_WP p e below FE Q k n (T.setTop (mkF m pc' ls (.int v :: rest)))) : own_WP p e below FE Q k n (T.setTop (mkF m pc ls rest)) := by
  subst hpc
  exact own_of (fun t q => XS.iloadN X.here hx rfl hd hl q) w
theorem own_lload (X : Stand p l e R s m args below meth c T locs cells slots) (hx : p.tables.exec = Jvm.exec) {j : Nat} {v : Int64} (hd : decode c.code pc = .ok (.lload j, 2)) (hl : ls[j]? = some (.val (.long v))) (hpc : pc + 2 = pc') (w : own_WP p e below FE Q k n (T.setTop (mkF m pc' ls (.long v :: rest)))) : own_WP p e below FE Q k n (T.setTop (mkF m pc ls rest)) := by
  subst hpc
  exact own_of (fun t q => XS.lload X.here hx rfl hd hl q) w
theorem own_lloadN (X : Stand p l e R s m args below meth c T locs cells slots) (hx : p.tables.exec = Jvm.exec) {j : Fin 4} {v : Int64} (hd : decode c.code pc = .ok (.lload_n j, 1)) (hl : ls[j.val]? = some (.val (.long v))) (hpc : pc + 1 = pc') (w : own_WP p e below FE Q k n (T.setTop (mkF m pc' ls (.long v :: rest)))) : own_WP p e below FE Q k n (T.setTop (mkF m pc ls rest)) := by
  subst hpc
  exact own_of (fun t q => XS.lloadN X.here hx rfl hd hl q) w
theorem own_aload (X : Stand p l e R s m args below meth c T locs cells slots) (hx : p.tables.exec = Jvm.exec) {j : Nat} {v : Value} (hd : decode c.code pc = .ok (.aload j, 2)) (hl : ls[j]? = some (.val v)) (hv : v.isRef = true) (hpc : pc + 2 = pc') (w : own_WP p e below FE Q k n (T.setTop (mkF m pc' ls (v :: rest)))) : own_WP p e below FE Q k n (T.setTop (mkF m pc ls rest)) := by
  subst hpc
  exact own_of (fun t q => XS.aload X.here hx rfl hd hl hv q) w
theorem own_aloadN (X : Stand p l e R s m args below meth c T locs cells slots) (hx : p.tables.exec = Jvm.exec) {j : Fin 4} {v : Value} (hd : decode c.code pc = .ok (.aload_n j, 1)) (hl : ls[j.val]? = some (.val v)) (hv : v.isRef = true) (hpc : pc + 1 = pc') (w : own_WP p e below FE Q k n (T.setTop (mkF m pc' ls (v :: rest)))) : own_WP p e below FE Q k n (T.setTop (mkF m pc ls rest)) := by
  subst hpc
  exact own_of (fun t q => XS.aloadN X.here hx rfl hd hl hv q) w
theorem own_istore (X : Stand p l e R s m args below meth c T locs cells slots) (hx : p.tables.exec = Jvm.exec) {j : Nat} {v z : Int32} (hd : decode c.code pc = .ok (.istore j, 2)) (hz : z = v) (hl : storeLocals ls j (.int z) = some l') (hpc : pc + 2 = pc') (w : own_WP p e below FE Q k n (T.setTop (mkF m pc' l' rest))) : own_WP p e below FE Q k n (T.setTop (mkF m pc ls (.int v :: rest))) := by
  subst hpc
  exact own_of (fun t q => XS.istore X.here hx rfl hd rfl (hz ▸ hl) q) w
theorem own_istoreN (X : Stand p l e R s m args below meth c T locs cells slots) (hx : p.tables.exec = Jvm.exec) {j : Fin 4} {v z : Int32} (hd : decode c.code pc = .ok (.istore_n j, 1)) (hz : z = v) (hl : storeLocals ls j.val (.int z) = some l') (hpc : pc + 1 = pc') (w : own_WP p e below FE Q k n (T.setTop (mkF m pc' l' rest))) : own_WP p e below FE Q k n (T.setTop (mkF m pc ls (.int v :: rest))) := by
  subst hpc
  exact own_of (fun t q => XS.istoreN X.here hx rfl hd rfl (hz ▸ hl) q) w
theorem own_lstore (X : Stand p l e R s m args below meth c T locs cells slots) (hx : p.tables.exec = Jvm.exec) {j : Nat} {v z : Int64} (hd : decode c.code pc = .ok (.lstore j, 2)) (hz : z = v) (hl : storeLocals ls j (.long z) = some l') (hpc : pc + 2 = pc') (w : own_WP p e below FE Q k n (T.setTop (mkF m pc' l' rest))) : own_WP p e below FE Q k n (T.setTop (mkF m pc ls (.long v :: rest))) := by
  subst hpc
  exact own_of (fun t q => XS.lstore X.here hx rfl hd rfl (hz ▸ hl) q) w
theorem own_lstoreN (X : Stand p l e R s m args below meth c T locs cells slots) (hx : p.tables.exec = Jvm.exec) {j : Fin 4} {v z : Int64} (hd : decode c.code pc = .ok (.lstore_n j, 1)) (hz : z = v) (hl : storeLocals ls j.val (.long z) = some l') (hpc : pc + 1 = pc') (w : own_WP p e below FE Q k n (T.setTop (mkF m pc' l' rest))) : own_WP p e below FE Q k n (T.setTop (mkF m pc ls (.long v :: rest))) := by
  subst hpc
  exact own_of (fun t q => XS.lstoreN X.here hx rfl hd rfl (hz ▸ hl) q) w
theorem own_astore (X : Stand p l e R s m args below meth c T locs cells slots) (hx : p.tables.exec = Jvm.exec) {j : Nat} {v : Value} (hd : decode c.code pc = .ok (.astore j, 2)) (hv : v.isRef = true) (hl : storeLocals ls j v = some l') (hpc : pc + 2 = pc') (w : own_WP p e below FE Q k n (T.setTop (mkF m pc' l' rest))) : own_WP p e below FE Q k n (T.setTop (mkF m pc ls (v :: rest))) := by
  subst hpc
  exact own_of (fun t q => XS.astore X.here hx rfl hd rfl hv hl q) w
theorem own_astoreN (X : Stand p l e R s m args below meth c T locs cells slots) (hx : p.tables.exec = Jvm.exec) {j : Fin 4} {v : Value} (hd : decode c.code pc = .ok (.astore_n j, 1)) (hv : v.isRef = true) (hl : storeLocals ls j.val v = some l') (hpc : pc + 1 = pc') (w : own_WP p e below FE Q k n (T.setTop (mkF m pc' l' rest))) : own_WP p e below FE Q k n (T.setTop (mkF m pc ls (v :: rest))) := by
  subst hpc
  exact own_of (fun t q => XS.astoreN X.here hx rfl hd rfl hv hl q) w
theorem own_iinc (X : Stand p l e R s m args below meth c T locs cells slots) (hx : p.tables.exec = Jvm.exec) {j : Nat} {i : Int} {v z : Int32} (hd : decode c.code pc = .ok (.iinc j i, 3)) (hl0 : ls[j]? = some (.val (.int v))) (hz : z = v + Int32.ofInt i) (hl : storeLocals ls j (.int z) = some l') (hpc : pc + 3 = pc') (w : own_WP p e below FE Q k n (T.setTop (mkF m pc' l' rest))) : own_WP p e below FE Q k n (T.setTop (mkF m pc ls rest)) := by
  subst hpc
  exact own_of (fun t q => XS.iinc X.here hx rfl hd hl0 (hz ▸ hl) q) w
theorem own_iconst (X : Stand p l e R s m args below meth c T locs cells slots) (hx : p.tables.exec = Jvm.exec) {i : Int} (v : Int32) (hd : decode c.code pc = .ok (.iconst i, 1)) (hv : v = Int32.ofInt i) (hpc : pc + 1 = pc') (w : own_WP p e below FE Q k n (T.setTop (mkF m pc' ls (.int v :: rest)))) : own_WP p e below FE Q k n (T.setTop (mkF m pc ls rest)) := by
  subst hpc
  exact own_of (fun t q => XS.iconst X.here hx rfl hd (hv ▸ q)) w
theorem own_bipush (X : Stand p l e R s m args below meth c T locs cells slots) (hx : p.tables.exec = Jvm.exec) {i : Int} (v : Int32) (hd : decode c.code pc = .ok (.bipush i, 2)) (hv : v = (Int8.ofInt i).toInt32) (hpc : pc + 2 = pc') (w : own_WP p e below FE Q k n (T.setTop (mkF m pc' ls (.int v :: rest)))) : own_WP p e below FE Q k n (T.setTop (mkF m pc ls rest)) := by
  subst hpc
  exact own_of (fun t q => XS.bipush X.here hx rfl hd (hv ▸ q)) w
theorem own_sipush (X : Stand p l e R s m args below meth c T locs cells slots) (hx : p.tables.exec = Jvm.exec) {i : Int} (v : Int32) (hd : decode c.code pc = .ok (.sipush i, 3)) (hv : v = (Int16.ofInt i).toInt32) (hpc : pc + 3 = pc') (w : own_WP p e below FE Q k n (T.setTop (mkF m pc' ls (.int v :: rest)))) : own_WP p e below FE Q k n (T.setTop (mkF m pc ls rest)) := by
  subst hpc
  exact own_of (fun t q => XS.sipush X.here hx rfl hd (hv ▸ q)) w
theorem own_anull (X : Stand p l e R s m args below meth c T locs cells slots) (hx : p.tables.exec = Jvm.exec)  (hd : decode c.code pc = .ok (.aconst_null, 1)) (hpc : pc + 1 = pc') (w : own_WP p e below FE Q k n (T.setTop (mkF m pc' ls (.null :: rest)))) : own_WP p e below FE Q k n (T.setTop (mkF m pc ls rest)) := by
  subst hpc
  exact own_of (fun t q => XS.aconstNull X.here hx rfl hd q) w
theorem own_lconst0 (X : Stand p l e R s m args below meth c T locs cells slots) (hx : p.tables.exec = Jvm.exec)  (hd : decode c.code pc = .ok (.lconst 0, 1)) (hpc : pc + 1 = pc') (w : own_WP p e below FE Q k n (T.setTop (mkF m pc' ls (.long 0 :: rest)))) : own_WP p e below FE Q k n (T.setTop (mkF m pc ls rest)) := by
  subst hpc
  exact own_of (fun t q => XS.lconst X.here hx rfl hd q) w
theorem own_lconst1 (X : Stand p l e R s m args below meth c T locs cells slots) (hx : p.tables.exec = Jvm.exec)  (hd : decode c.code pc = .ok (.lconst 1, 1)) (hpc : pc + 1 = pc') (w : own_WP p e below FE Q k n (T.setTop (mkF m pc' ls (.long 1 :: rest)))) : own_WP p e below FE Q k n (T.setTop (mkF m pc ls rest)) := by
  subst hpc
  exact own_of (fun t q => XS.lconst X.here hx rfl hd q) w
theorem own_ldcInt (X : Stand p l e R s m args below meth c T locs cells slots) (hx : p.tables.exec = Jvm.exec) (hZ : Z.Warmed39 s.vm) {own : String} {idx : Nat} {v : Int32} (hown : s.vm.findClass own = some m.cls) (w1 : (Jvm.Cond.constant own idx v).before a0 Z = true) (hd : decode c.code pc = .ok (.ldc idx, 2)) (hpc : pc + 2 = pc') (w : own_WP p e below FE Q k n (T.setTop (mkF m pc' ls (.int v :: rest)))) : own_WP p e below FE Q k n (T.setTop (mkF m pc ls rest)) := by
  subst hpc
  exact own_of (fun t q => X.ldcInt hx hown (mvT hZ w1) (g := mkF m pc ls rest) rfl hd _ q) w
theorem own_ldc2Long (X : Stand p l e R s m args below meth c T locs cells slots) (hx : p.tables.exec = Jvm.exec) (hZ : Z.Warmed39 s.vm) {own : String} {idx : Nat} {v : Int64} (hown : s.vm.findClass own = some m.cls) (w1 : (Jvm.Cond.constantLong own idx v).before a0 Z = true) (hd : decode c.code pc = .ok (.ldc2_w idx, 3)) (hpc : pc + 3 = pc') (w : own_WP p e below FE Q k n (T.setTop (mkF m pc' ls (.long v :: rest)))) : own_WP p e below FE Q k n (T.setTop (mkF m pc ls rest)) := by
  subst hpc
  exact own_of (fun t q => X.ldc2Long hx hown (mvT hZ w1) (g := mkF m pc ls rest) rfl hd _ q) w
theorem own_iadd (X : Stand p l e R s m args below meth c T locs cells slots) (hx : p.tables.exec = Jvm.exec) {x y : Int32} (hd : decode c.code pc = .ok (.iadd, 1)) (hpc : pc + 1 = pc') (w : own_WP p e below FE Q k n (T.setTop (mkF m pc' ls (.int (x + y) :: rest)))) : own_WP p e below FE Q k n (T.setTop (mkF m pc ls (.int y :: .int x :: rest))) := by
  subst hpc
  exact own_of (fun t q => XS.iadd X.here hx rfl hd rfl q) w
theorem own_isub (X : Stand p l e R s m args below meth c T locs cells slots) (hx : p.tables.exec = Jvm.exec) {x y : Int32} (hd : decode c.code pc = .ok (.isub, 1)) (hpc : pc + 1 = pc') (w : own_WP p e below FE Q k n (T.setTop (mkF m pc' ls (.int (x - y) :: rest)))) : own_WP p e below FE Q k n (T.setTop (mkF m pc ls (.int y :: .int x :: rest))) := by
  subst hpc
  exact own_of (fun t q => XS.isub X.here hx rfl hd rfl q) w
theorem own_lsub (X : Stand p l e R s m args below meth c T locs cells slots) (hx : p.tables.exec = Jvm.exec) {x y : Int64} (hd : decode c.code pc = .ok (.lsub, 1)) (hpc : pc + 1 = pc') (w : own_WP p e below FE Q k n (T.setTop (mkF m pc' ls (.long (x - y) :: rest)))) : own_WP p e below FE Q k n (T.setTop (mkF m pc ls (.long y :: .long x :: rest))) := by
  subst hpc
  exact own_of (fun t q => XS.lsub X.here hx rfl hd rfl q) w
theorem own_imul (X : Stand p l e R s m args below meth c T locs cells slots) (hx : p.tables.exec = Jvm.exec) {x y : Int32} (hd : decode c.code pc = .ok (.imul, 1)) (hpc : pc + 1 = pc') (w : own_WP p e below FE Q k n (T.setTop (mkF m pc' ls (.int (x * y) :: rest)))) : own_WP p e below FE Q k n (T.setTop (mkF m pc ls (.int y :: .int x :: rest))) := by
  subst hpc
  exact own_of (fun t q => XS.imul X.here hx rfl hd rfl q) w
theorem own_lmul (X : Stand p l e R s m args below meth c T locs cells slots) (hx : p.tables.exec = Jvm.exec) {x y : Int64} (hd : decode c.code pc = .ok (.lmul, 1)) (hpc : pc + 1 = pc') (w : own_WP p e below FE Q k n (T.setTop (mkF m pc' ls (.long (x * y) :: rest)))) : own_WP p e below FE Q k n (T.setTop (mkF m pc ls (.long y :: .long x :: rest))) := by
  subst hpc
  exact own_of (fun t q => XS.lmul X.here hx rfl hd rfl q) w
theorem own_iand (X : Stand p l e R s m args below meth c T locs cells slots) (hx : p.tables.exec = Jvm.exec) {x y : Int32} (hd : decode c.code pc = .ok (.iand, 1)) (hpc : pc + 1 = pc') (w : own_WP p e below FE Q k n (T.setTop (mkF m pc' ls (.int (x &&& y) :: rest)))) : own_WP p e below FE Q k n (T.setTop (mkF m pc ls (.int y :: .int x :: rest))) := by
  subst hpc
  exact own_of (fun t q => XS.iand X.here hx rfl hd rfl q) w
theorem own_ishl (X : Stand p l e R s m args below meth c T locs cells slots) (hx : p.tables.exec = Jvm.exec) {x y : Int32} (hd : decode c.code pc = .ok (.ishl, 1)) (hpc : pc + 1 = pc') (w : own_WP p e below FE Q k n (T.setTop (mkF m pc' ls (.int (x <<< (y &&& 31)) :: rest)))) : own_WP p e below FE Q k n (T.setTop (mkF m pc ls (.int y :: .int x :: rest))) := by
  subst hpc
  exact own_of (fun t q => XS.ishl X.here hx rfl hd rfl q) w
theorem own_ishr (X : Stand p l e R s m args below meth c T locs cells slots) (hx : p.tables.exec = Jvm.exec) {x y : Int32} (hd : decode c.code pc = .ok (.ishr, 1)) (hpc : pc + 1 = pc') (w : own_WP p e below FE Q k n (T.setTop (mkF m pc' ls (.int (x >>> (y &&& 31)) :: rest)))) : own_WP p e below FE Q k n (T.setTop (mkF m pc ls (.int y :: .int x :: rest))) := by
  subst hpc
  exact own_of (fun t q => XS.ishr X.here hx rfl hd rfl q) w
theorem own_iushr (X : Stand p l e R s m args below meth c T locs cells slots) (hx : p.tables.exec = Jvm.exec) {x y : Int32} (hd : decode c.code pc = .ok (.iushr, 1)) (hpc : pc + 1 = pc') (w : own_WP p e below FE Q k n (T.setTop (mkF m pc' ls (.int ((x.toUInt32 >>> (y &&& 31).toUInt32).toInt32) :: rest)))) : own_WP p e below FE Q k n (T.setTop (mkF m pc ls (.int y :: .int x :: rest))) := by
  subst hpc
  exact own_of (fun t q => XS.iushr X.here hx rfl hd rfl q) w
theorem own_idiv (X : Stand p l e R s m args below meth c T locs cells slots) (hx : p.tables.exec = Jvm.exec) {x y : Int32} (hd : decode c.code pc = .ok (.idiv, 1)) (hy : y ≠ 0) (hpc : pc + 1 = pc') (w : own_WP p e below FE Q k n (T.setTop (mkF m pc' ls (.int (x / y) :: rest)))) : own_WP p e below FE Q k n (T.setTop (mkF m pc ls (.int y :: .int x :: rest))) := by
  subst hpc
  exact own_of (fun t q => XS.idiv X.here hx rfl hd rfl hy q) w
theorem own_irem (X : Stand p l e R s m args below meth c T locs cells slots) (hx : p.tables.exec = Jvm.exec) {x y : Int32} (hd : decode c.code pc = .ok (.irem, 1)) (hy : y ≠ 0) (hpc : pc + 1 = pc') (w : own_WP p e below FE Q k n (T.setTop (mkF m pc' ls (.int (x % y) :: rest)))) : own_WP p e below FE Q k n (T.setTop (mkF m pc ls (.int y :: .int x :: rest))) := by
  subst hpc
  exact own_of (fun t q => iremM X hx rfl hd rfl hy q) w
theorem own_ldiv (X : Stand p l e R s m args below meth c T locs cells slots) (hx : p.tables.exec = Jvm.exec) {x y : Int64} (hd : decode c.code pc = .ok (.ldiv, 1)) (hy : y ≠ 0) (hpc : pc + 1 = pc') (w : own_WP p e below FE Q k n (T.setTop (mkF m pc' ls (.long (x / y) :: rest)))) : own_WP p e below FE Q k n (T.setTop (mkF m pc ls (.long y :: .long x :: rest))) := by
  subst hpc
  exact own_of (fun t q => XS.ldiv X.here hx rfl hd rfl hy q) w
theorem own_lrem (X : Stand p l e R s m args below meth c T locs cells slots) (hx : p.tables.exec = Jvm.exec) {x y : Int64} (hd : decode c.code pc = .ok (.lrem, 1)) (hy : y ≠ 0) (hpc : pc + 1 = pc') (w : own_WP p e below FE Q k n (T.setTop (mkF m pc' ls (.long (x % y) :: rest)))) : own_WP p e below FE Q k n (T.setTop (mkF m pc ls (.long y :: .long x :: rest))) := by
  subst hpc
  exact own_of (fun t q => XS.lrem X.here hx rfl hd rfl hy ((lrem_mod x y).symm ▸ q)) w
theorem own_ineg (X : Stand p l e R s m args below meth c T locs cells slots) (hx : p.tables.exec = Jvm.exec) {x : Int32} (hd : decode c.code pc = .ok (.ineg, 1)) (hpc : pc + 1 = pc') (w : own_WP p e below FE Q k n (T.setTop (mkF m pc' ls (.int (-x) :: rest)))) : own_WP p e below FE Q k n (T.setTop (mkF m pc ls (.int x :: rest))) := by
  subst hpc
  exact own_of (fun t q => XS.ineg X.here hx rfl hd rfl q) w
theorem own_lneg (X : Stand p l e R s m args below meth c T locs cells slots) (hx : p.tables.exec = Jvm.exec) {x : Int64} (hd : decode c.code pc = .ok (.lneg, 1)) (hpc : pc + 1 = pc') (w : own_WP p e below FE Q k n (T.setTop (mkF m pc' ls (.long (-x) :: rest)))) : own_WP p e below FE Q k n (T.setTop (mkF m pc ls (.long x :: rest))) := by
  subst hpc
  exact own_of (fun t q => XS.lneg X.here hx rfl hd rfl q) w
theorem own_l2i (X : Stand p l e R s m args below meth c T locs cells slots) (hx : p.tables.exec = Jvm.exec) {x : Int64} (hd : decode c.code pc = .ok (.l2i, 1)) (hpc : pc + 1 = pc') (w : own_WP p e below FE Q k n (T.setTop (mkF m pc' ls (.int (x.toInt32) :: rest)))) : own_WP p e below FE Q k n (T.setTop (mkF m pc ls (.long x :: rest))) := by
  subst hpc
  exact own_of (fun t q => XS.l2i X.here hx rfl hd rfl q) w
theorem own_i2b (X : Stand p l e R s m args below meth c T locs cells slots) (hx : p.tables.exec = Jvm.exec) {x : Int32} (hd : decode c.code pc = .ok (.i2b, 1)) (hpc : pc + 1 = pc') (w : own_WP p e below FE Q k n (T.setTop (mkF m pc' ls (.int (x.toInt8.toInt32) :: rest)))) : own_WP p e below FE Q k n (T.setTop (mkF m pc ls (.int x :: rest))) := by
  subst hpc
  exact own_of (fun t q => XS.i2b X.here hx rfl hd rfl q) w
theorem own_i2c (X : Stand p l e R s m args below meth c T locs cells slots) (hx : p.tables.exec = Jvm.exec) {x : Int32} (hd : decode c.code pc = .ok (.i2c, 1)) (hpc : pc + 1 = pc') (w : own_WP p e below FE Q k n (T.setTop (mkF m pc' ls (.int (x.toUInt32.toUInt16.toUInt32.toInt32) :: rest)))) : own_WP p e below FE Q k n (T.setTop (mkF m pc ls (.int x :: rest))) := by
  subst hpc
  exact own_of (fun t q => XS.i2c X.here hx rfl hd rfl q) w
theorem own_lcmp (X : Stand p l e R s m args below meth c T locs cells slots) (hx : p.tables.exec = Jvm.exec) {x y : Int64} (hd : decode c.code pc = .ok (.lcmp, 1)) (hpc : pc + 1 = pc') (w : own_WP p e below FE Q k n (T.setTop (mkF m pc' ls (.int (lcmpW x y) :: rest)))) : own_WP p e below FE Q k n (T.setTop (mkF m pc ls (.long y :: .long x :: rest))) := by
  subst hpc
  exact own_of (fun t q => XS.lcmp X.here hx rfl hd rfl q) w
theorem own_dup (X : Stand p l e R s m args below meth c T locs cells slots) (hx : p.tables.exec = Jvm.exec) {v : Value} (hd : decode c.code pc = .ok (.dup, 1)) (hv : v.category = 1) (hpc : pc + 1 = pc') (w : own_WP p e below FE Q k n (T.setTop (mkF m pc' ls (v :: v :: rest)))) : own_WP p e below FE Q k n (T.setTop (mkF m pc ls (v :: rest))) := by
  subst hpc
  exact own_of (fun t q => XS.dup X.here hx rfl hd rfl hv q) w
theorem own_pop (X : Stand p l e R s m args below meth c T locs cells slots) (hx : p.tables.exec = Jvm.exec) {v : Value} (hd : decode c.code pc = .ok (.pop, 1)) (hv : v.category = 1) (hpc : pc + 1 = pc') (w : own_WP p e below FE Q k n (T.setTop (mkF m pc' ls rest))) : own_WP p e below FE Q k n (T.setTop (mkF m pc ls (v :: rest))) := by
  subst hpc
  exact own_of (fun t q => XS.pop X.here hx rfl hd rfl hv q) w
theorem own_goto (X : Stand p l e R s m args below meth c T locs cells slots) (hx : p.tables.exec = Jvm.exec) {o : Int} (hd : decode c.code pc = .ok (.goto o, 3)) (ho : 0 ≤ (pc : Int) + o) (hpc : ((pc : Int) + o).toNat = pc') (w : own_WP p e below FE Q k n (T.setTop (mkF m pc' ls rest))) : own_WP p e below FE Q k n (T.setTop (mkF m pc ls rest)) :=
  own_of (fun t q => XS.goto X.here hx rfl (pc0 := pc) (pc' := pc') rfl hd ho hpc q) w
theorem own_icmp_lt (X : Stand p l e R s m args below meth c T locs cells slots) (hx : p.tables.exec = Jvm.exec) {x y : Int32} {o : Int} {pf pt : Nat} (hd : decode c.code pc = .ok (.if_icmp .lt o, 3)) (hpf : pc + 3 = pf) (ho : 0 ≤ (pc : Int) + o) (hpt : ((pc : Int) + o).toNat = pt)
    (yes : x < y → own_WP p e below FE Q k n (T.setTop (mkF m pt ls rest))) (no : ¬ x < y → own_WP p e below FE Q k n (T.setTop (mkF m pf ls rest))) : own_WP p e below FE Q k n (T.setTop (mkF m pc ls (.int y :: .int x :: rest))) := by
  subst hpf
  by_cases hq : x < y
  · exact own_of (fun t q => XS.icmpYes X.here hx rfl (pc0 := pc) (pc' := pt) rfl hd rfl ((tlt hq).1) ho hpt q) (yes hq)
  · exact own_of (fun t q => XS.icmpNo X.here hx rfl hd rfl ((flt hq).1) q) (no hq)
theorem own_if_lt (X : Stand p l e R s m args below meth c T locs cells slots) (hx : p.tables.exec = Jvm.exec) {x : Int32} {o : Int} {pf pt : Nat} (hd : decode c.code pc = .ok (.ifCond .lt o, 3)) (hpf : pc + 3 = pf) (ho : 0 ≤ (pc : Int) + o) (hpt : ((pc : Int) + o).toNat = pt)
    (yes : x < 0 → own_WP p e below FE Q k n (T.setTop (mkF m pt ls rest))) (no : ¬ x < 0 → own_WP p e below FE Q k n (T.setTop (mkF m pf ls rest))) : own_WP p e below FE Q k n (T.setTop (mkF m pc ls (.int x :: rest))) := by
  subst hpf
  by_cases hq : x < 0
  · exact own_of (fun t q => XS.ifYes X.here hx rfl (pc0 := pc) (pc' := pt) rfl hd rfl ((if0 _ _).trans (tlt hq).1) ho hpt q) (yes hq)
  · exact own_of (fun t q => XS.ifNo X.here hx rfl hd rfl ((if0 _ _).trans (flt hq).1) q) (no hq)
theorem own_ifl_lt (X : Stand p l e R s m args below meth c T locs cells slots) (hx : p.tables.exec = Jvm.exec) {x y : Int64} {o : Int} {pf pt : Nat} (hd : decode c.code pc = .ok (.ifCond .lt o, 3)) (hpf : pc + 3 = pf) (ho : 0 ≤ (pc : Int) + o) (hpt : ((pc : Int) + o).toNat = pt)
    (yes : x < y → own_WP p e below FE Q k n (T.setTop (mkF m pt ls rest))) (no : ¬ x < y → own_WP p e below FE Q k n (T.setTop (mkF m pf ls rest))) : own_WP p e below FE Q k n (T.setTop (mkF m pc ls (.int (lcmpW x y) :: rest))) := by
  subst hpf
  by_cases hq : x < y
  · exact own_of (fun t q => XS.ifYes X.here hx rfl (pc0 := pc) (pc' := pt) rfl hd rfl ((if0 _ _).trans (tlt ((lw_lt x y).mpr hq)).1) ho hpt q) (yes hq)
  · exact own_of (fun t q => XS.ifNo X.here hx rfl hd rfl ((if0 _ _).trans (flt (fun z => hq ((lw_lt x y).mp z))).1) q) (no hq)
theorem own_icmp_ge (X : Stand p l e R s m args below meth c T locs cells slots) (hx : p.tables.exec = Jvm.exec) {x y : Int32} {o : Int} {pf pt : Nat} (hd : decode c.code pc = .ok (.if_icmp .ge o, 3)) (hpf : pc + 3 = pf) (ho : 0 ≤ (pc : Int) + o) (hpt : ((pc : Int) + o).toNat = pt)
    (yes : ¬ x < y → own_WP p e below FE Q k n (T.setTop (mkF m pt ls rest))) (no : x < y → own_WP p e below FE Q k n (T.setTop (mkF m pf ls rest))) : own_WP p e below FE Q k n (T.setTop (mkF m pc ls (.int y :: .int x :: rest))) := by
  subst hpf
  by_cases hq : ¬ x < y
  · exact own_of (fun t q => XS.icmpYes X.here hx rfl (pc0 := pc) (pc' := pt) rfl hd rfl ((flt hq).2.1) ho hpt q) (yes hq)
  · exact own_of (fun t q => XS.icmpNo X.here hx rfl hd rfl ((tlt (Classical.not_not.mp hq)).2.1) q) (no (Classical.not_not.mp hq))
theorem own_ifl_ge (X : Stand p l e R s m args below meth c T locs cells slots) (hx : p.tables.exec = Jvm.exec) {x y : Int64} {o : Int} {pf pt : Nat} (hd : decode c.code pc = .ok (.ifCond .ge o, 3)) (hpf : pc + 3 = pf) (ho : 0 ≤ (pc : Int) + o) (hpt : ((pc : Int) + o).toNat = pt)
    (yes : ¬ x < y → own_WP p e below FE Q k n (T.setTop (mkF m pt ls rest))) (no : x < y → own_WP p e below FE Q k n (T.setTop (mkF m pf ls rest))) : own_WP p e below FE Q k n (T.setTop (mkF m pc ls (.int (lcmpW x y) :: rest))) := by
  subst hpf
  by_cases hq : ¬ x < y
  · exact own_of (fun t q => XS.ifYes X.here hx rfl (pc0 := pc) (pc' := pt) rfl hd rfl ((if0 _ _).trans (flt (fun z => hq ((lw_lt x y).mp z))).2.1) ho hpt q) (yes hq)
  · exact own_of (fun t q => XS.ifNo X.here hx rfl hd rfl ((if0 _ _).trans (tlt ((lw_lt x y).mpr (Classical.not_not.mp hq))).2.1) q) (no (Classical.not_not.mp hq))
theorem own_icmp_gt (X : Stand p l e R s m args below meth c T locs cells slots) (hx : p.tables.exec = Jvm.exec) {x y : Int32} {o : Int} {pf pt : Nat} (hd : decode c.code pc = .ok (.if_icmp .gt o, 3)) (hpf : pc + 3 = pf) (ho : 0 ≤ (pc : Int) + o) (hpt : ((pc : Int) + o).toNat = pt)
    (yes : y < x → own_WP p e below FE Q k n (T.setTop (mkF m pt ls rest))) (no : ¬ y < x → own_WP p e below FE Q k n (T.setTop (mkF m pf ls rest))) : own_WP p e below FE Q k n (T.setTop (mkF m pc ls (.int y :: .int x :: rest))) := by
  subst hpf
  by_cases hq : y < x
  · exact own_of (fun t q => XS.icmpYes X.here hx rfl (pc0 := pc) (pc' := pt) rfl hd rfl ((tlt hq).2.2.1) ho hpt q) (yes hq)
  · exact own_of (fun t q => XS.icmpNo X.here hx rfl hd rfl ((flt hq).2.2.1) q) (no hq)
theorem own_ifl_gt (X : Stand p l e R s m args below meth c T locs cells slots) (hx : p.tables.exec = Jvm.exec) {x y : Int64} {o : Int} {pf pt : Nat} (hd : decode c.code pc = .ok (.ifCond .gt o, 3)) (hpf : pc + 3 = pf) (ho : 0 ≤ (pc : Int) + o) (hpt : ((pc : Int) + o).toNat = pt)
    (yes : y < x → own_WP p e below FE Q k n (T.setTop (mkF m pt ls rest))) (no : ¬ y < x → own_WP p e below FE Q k n (T.setTop (mkF m pf ls rest))) : own_WP p e below FE Q k n (T.setTop (mkF m pc ls (.int (lcmpW x y) :: rest))) := by
  subst hpf
  by_cases hq : y < x
  · exact own_of (fun t q => XS.ifYes X.here hx rfl (pc0 := pc) (pc' := pt) rfl hd rfl ((if0 _ _).trans (tlt ((lw_gt x y).mpr hq)).2.2.1) ho hpt q) (yes hq)
  · exact own_of (fun t q => XS.ifNo X.here hx rfl hd rfl ((if0 _ _).trans (flt (fun z => hq ((lw_gt x y).mp z))).2.2.1) q) (no hq)
theorem own_icmp_le (X : Stand p l e R s m args below meth c T locs cells slots) (hx : p.tables.exec = Jvm.exec) {x y : Int32} {o : Int} {pf pt : Nat} (hd : decode c.code pc = .ok (.if_icmp .le o, 3)) (hpf : pc + 3 = pf) (ho : 0 ≤ (pc : Int) + o) (hpt : ((pc : Int) + o).toNat = pt)
    (yes : ¬ y < x → own_WP p e below FE Q k n (T.setTop (mkF m pt ls rest))) (no : y < x → own_WP p e below FE Q k n (T.setTop (mkF m pf ls rest))) : own_WP p e below FE Q k n (T.setTop (mkF m pc ls (.int y :: .int x :: rest))) := by
  subst hpf
  by_cases hq : ¬ y < x
  · exact own_of (fun t q => XS.icmpYes X.here hx rfl (pc0 := pc) (pc' := pt) rfl hd rfl ((flt hq).2.2.2) ho hpt q) (yes hq)
  · exact own_of (fun t q => XS.icmpNo X.here hx rfl hd rfl ((tlt (Classical.not_not.mp hq)).2.2.2) q) (no (Classical.not_not.mp hq))
theorem own_if_le (X : Stand p l e R s m args below meth c T locs cells slots) (hx : p.tables.exec = Jvm.exec) {x : Int32} {o : Int} {pf pt : Nat} (hd : decode c.code pc = .ok (.ifCond .le o, 3)) (hpf : pc + 3 = pf) (ho : 0 ≤ (pc : Int) + o) (hpt : ((pc : Int) + o).toNat = pt)
    (yes : ¬ 0 < x → own_WP p e below FE Q k n (T.setTop (mkF m pt ls rest))) (no : 0 < x → own_WP p e below FE Q k n (T.setTop (mkF m pf ls rest))) : own_WP p e below FE Q k n (T.setTop (mkF m pc ls (.int x :: rest))) := by
  subst hpf
  by_cases hq : ¬ 0 < x
  · exact own_of (fun t q => XS.ifYes X.here hx rfl (pc0 := pc) (pc' := pt) rfl hd rfl ((if0 _ _).trans (flt hq).2.2.2) ho hpt q) (yes hq)
  · exact own_of (fun t q => XS.ifNo X.here hx rfl hd rfl ((if0 _ _).trans (tlt (Classical.not_not.mp hq)).2.2.2) q) (no (Classical.not_not.mp hq))
theorem own_ifl_le (X : Stand p l e R s m args below meth c T locs cells slots) (hx : p.tables.exec = Jvm.exec) {x y : Int64} {o : Int} {pf pt : Nat} (hd : decode c.code pc = .ok (.ifCond .le o, 3)) (hpf : pc + 3 = pf) (ho : 0 ≤ (pc : Int) + o) (hpt : ((pc : Int) + o).toNat = pt)
    (yes : ¬ y < x → own_WP p e below FE Q k n (T.setTop (mkF m pt ls rest))) (no : y < x → own_WP p e below FE Q k n (T.setTop (mkF m pf ls rest))) : own_WP p e below FE Q k n (T.setTop (mkF m pc ls (.int (lcmpW x y) :: rest))) := by
  subst hpf
  by_cases hq : ¬ y < x
  · exact own_of (fun t q => XS.ifYes X.here hx rfl (pc0 := pc) (pc' := pt) rfl hd rfl ((if0 _ _).trans (flt (fun z => hq ((lw_gt x y).mp z))).2.2.2) ho hpt q) (yes hq)
  · exact own_of (fun t q => XS.ifNo X.here hx rfl hd rfl ((if0 _ _).trans (tlt ((lw_gt x y).mpr (Classical.not_not.mp hq))).2.2.2) q) (no (Classical.not_not.mp hq))
theorem own_icmp_eq (X : Stand p l e R s m args below meth c T locs cells slots) (hx : p.tables.exec = Jvm.exec) {x y : Int32} {o : Int} {pf pt : Nat} (hd : decode c.code pc = .ok (.if_icmp .eq o, 3)) (hpf : pc + 3 = pf) (ho : 0 ≤ (pc : Int) + o) (hpt : ((pc : Int) + o).toNat = pt)
    (yes : x = y → own_WP p e below FE Q k n (T.setTop (mkF m pt ls rest))) (no : ¬ x = y → own_WP p e below FE Q k n (T.setTop (mkF m pf ls rest))) : own_WP p e below FE Q k n (T.setTop (mkF m pc ls (.int y :: .int x :: rest))) := by
  subst hpf
  by_cases hq : x = y
  · exact own_of (fun t q => XS.icmpYes X.here hx rfl (pc0 := pc) (pc' := pt) rfl hd rfl ((teq hq).1) ho hpt q) (yes hq)
  · exact own_of (fun t q => XS.icmpNo X.here hx rfl hd rfl ((feq hq).1) q) (no hq)
theorem own_if_eq (X : Stand p l e R s m args below meth c T locs cells slots) (hx : p.tables.exec = Jvm.exec) {x : Int32} {o : Int} {pf pt : Nat} (hd : decode c.code pc = .ok (.ifCond .eq o, 3)) (hpf : pc + 3 = pf) (ho : 0 ≤ (pc : Int) + o) (hpt : ((pc : Int) + o).toNat = pt)
    (yes : x = 0 → own_WP p e below FE Q k n (T.setTop (mkF m pt ls rest))) (no : ¬ x = 0 → own_WP p e below FE Q k n (T.setTop (mkF m pf ls rest))) : own_WP p e below FE Q k n (T.setTop (mkF m pc ls (.int x :: rest))) := by
  subst hpf
  by_cases hq : x = 0
  · exact own_of (fun t q => XS.ifYes X.here hx rfl (pc0 := pc) (pc' := pt) rfl hd rfl ((if0 _ _).trans (teq hq).1) ho hpt q) (yes hq)
  · exact own_of (fun t q => XS.ifNo X.here hx rfl hd rfl ((if0 _ _).trans (feq hq).1) q) (no hq)
theorem own_icmp_ne (X : Stand p l e R s m args below meth c T locs cells slots) (hx : p.tables.exec = Jvm.exec) {x y : Int32} {o : Int} {pf pt : Nat} (hd : decode c.code pc = .ok (.if_icmp .ne o, 3)) (hpf : pc + 3 = pf) (ho : 0 ≤ (pc : Int) + o) (hpt : ((pc : Int) + o).toNat = pt)
    (yes : ¬ x = y → own_WP p e below FE Q k n (T.setTop (mkF m pt ls rest))) (no : x = y → own_WP p e below FE Q k n (T.setTop (mkF m pf ls rest))) : own_WP p e below FE Q k n (T.setTop (mkF m pc ls (.int y :: .int x :: rest))) := by
  subst hpf
  by_cases hq : ¬ x = y
  · exact own_of (fun t q => XS.icmpYes X.here hx rfl (pc0 := pc) (pc' := pt) rfl hd rfl ((feq hq).2) ho hpt q) (yes hq)
  · exact own_of (fun t q => XS.icmpNo X.here hx rfl hd rfl ((teq (Classical.not_not.mp hq)).2) q) (no (Classical.not_not.mp hq))
theorem own_if_ne (X : Stand p l e R s m args below meth c T locs cells slots) (hx : p.tables.exec = Jvm.exec) {x : Int32} {o : Int} {pf pt : Nat} (hd : decode c.code pc = .ok (.ifCond .ne o, 3)) (hpf : pc + 3 = pf) (ho : 0 ≤ (pc : Int) + o) (hpt : ((pc : Int) + o).toNat = pt)
    (yes : ¬ x = 0 → own_WP p e below FE Q k n (T.setTop (mkF m pt ls rest))) (no : x = 0 → own_WP p e below FE Q k n (T.setTop (mkF m pf ls rest))) : own_WP p e below FE Q k n (T.setTop (mkF m pc ls (.int x :: rest))) := by
  subst hpf
  by_cases hq : ¬ x = 0
  · exact own_of (fun t q => XS.ifYes X.here hx rfl (pc0 := pc) (pc' := pt) rfl hd rfl ((if0 _ _).trans (feq hq).2) ho hpt q) (yes hq)
  · exact own_of (fun t q => XS.ifNo X.here hx rfl hd rfl ((if0 _ _).trans (teq (Classical.not_not.mp hq)).2) q) (no (Classical.not_not.mp hq))
theorem own_getF (X : Stand p l e R s m args below meth c T locs cells slots) (hx : p.tables.exec = Jvm.exec) (hZ : Z.Warmed39 s.vm) {own R0 O nm d host : String} {idx : Nat} (hown : s.vm.findClass own = some m.cls) (w1 : (Jvm.Cond.fieldLink own idx R0 nm d).before a0 Z = true ∨ (Jvm.Cond.fieldLinkNest own idx R0 nm d host).before a0 Z = true) (via : Via Z R0 O nm d) (eT : T.heap = h) {b : Addr} {v : Value} (F : Fld Z h b O nm d v) (hd : decode c.code pc = .ok (.getfield idx, 3)) (hpc : pc + 3 = pc')
    (w : ∀ T', Stand p l e R s m args below meth c T' locs cells slots → T'.heap = h → own_WP p e below FE Q k n (T'.setTop (mkF m pc' ls (v :: rest)))) : own_WP p e below FE Q k n (T.setTop (mkF m pc ls (.ref b :: rest))) := by
  subst hpc
  obtain ⟨T', X', e', st⟩ := getF X hx hZ hown w1 via eT F (g := mkF m pc ls (.ref b :: rest)) rfl rfl hd
  exact own_of st (w T' X' e')
theorem own_putF (X : Stand p l e R s m args below meth c T locs cells slots) (hx : p.tables.exec = Jvm.exec) (hZ : Z.Warmed39 s.vm) {own R0 O nm d host C : String} {idx kk : Nat} {ty : FieldType} (hown : s.vm.findClass own = some m.cls) (w1 : (Jvm.Cond.fieldLink own idx R0 nm d).before a0 Z = true ∨ (Jvm.Cond.fieldLinkNest own idx R0 nm d host).before a0 Z = true) (via : Via Z R0 O nm d) (eT : T.heap = h) {b : Addr} {v old : Value} (F : Fld Z h b O nm d old) (E : Exa Z h b C) (L : (Jvm.Cond.lays C O nm d).before a0 Z = true ∨ ((Jvm.Cond.laysFinal C O nm d).before a0 Z = true ∧ own = O ∧ meth.name = "<init>")) (wi : (Jvm.Cond.instantiable C kk).before a0 Z = true) (hty : parseFieldDescriptor d = some ty) (hn : narrow ty v = v) (hf : fits ty v = true) (hd : decode c.code pc = .ok (.putfield idx, 3)) (hpc : pc + 3 = pc')
    (w : ∀ T' h', Stand p l e R s m args below meth c T' (locs ++ [⟨b, Jvm.RoadKit.slotOf Z O nm d⟩]) cells slots → T'.heap = h' → Wr h h' b (Jvm.RoadKit.slotOf Z O nm d) v → own_WP p e below FE Q k n (T'.setTop (mkF m pc' ls rest))) : own_WP p e below FE Q k n (T.setTop (mkF m pc ls (v :: .ref b :: rest))) := by
  subst hpc
  obtain ⟨T', h', X', e', W', st⟩ := putF X hx hZ hown w1 via eT F E L wi hty hn hf (g := mkF m pc ls (v :: .ref b :: rest)) rfl rfl hd
  exact own_of st (w T' h' X' e' W')
theorem own_new (X : Stand p l e R s m args below meth c T locs cells slots) (hx : p.tables.exec = Jvm.exec) (hZ : Z.Warmed39 s.vm) {own C : String} {idx nn : Nat} (hown : s.vm.findClass own = some m.cls) (w1 : (Jvm.Cond.classLink own idx C).before a0 Z = true) (wi : (Jvm.Cond.instantiable C nn).before a0 Z = true) (wz : (Jvm.Cond.initialized C).before a0 Z = true) (eT : T.heap = h) (hd : decode c.code pc = .ok (.new idx, 3)) (hc : cells + 1 ≤ R.cells) (hl : slots + nn ≤ R.slots) (hpc : pc + 3 = pc')
    (w : ∀ T' h' b, b = h.size → Stand p l e R s m args below meth c T' locs (cells + 1) (slots + nn) → T'.heap = h' → Ext h h' → Exa Z h' b C → (∀ {O nm d : String} {ty : FieldType}, Laid Z a0 C O nm d → parseFieldDescriptor d = some ty → Fld Z h' b O nm d (defaultValue ty)) → own_WP p e below FE Q k n (T'.setTop (mkF m pc' ls (.ref b :: rest)))) : own_WP p e below FE Q k n (T.setTop (mkF m pc ls rest)) := by
  subst hpc
  obtain ⟨T', h', X', e', E', A', D', -, st⟩ := newO X hx hZ hown w1 wi wz eT (g := mkF m pc ls rest) rfl hd hc hl
  exact own_of st (w T' h' _ rfl X' e' E' A' D')
theorem own_newP (X : Stand p l e R s m args below meth c T locs cells slots) (hx : p.tables.exec = Jvm.exec) (hZ : Z.Warmed39 s.vm) {aty : ArrayType} (w1 : (Jvm.Cond.arrayClass (newarray.typeOf aty)).before a0 Z = true) (eT : T.heap = h) (hd : decode c.code pc = .ok (.newarray aty, 2)) {z : Int32} (hz : ¬ z < 0) {cap : Nat} (hcap : z.toNatClampNeg ≤ cap) (hb : cap * 8 ≤ 536870912) (hc : cells + 1 ≤ R.cells) (hl : slots + cap ≤ R.slots) (hpc : pc + 2 = pc')
    (w : ∀ T' h' cA b, b = h.size → Stand p l e R s m args below meth c T' locs (cells + 1) (slots + cap) → T'.heap = h' → Ext h h' → Arr Z h' b (newA cA (newarray.typeOf aty) z) (newarray.typeOf aty) → own_WP p e below FE Q k n (T'.setTop (mkF m pc' ls (.ref b :: rest)))) : own_WP p e below FE Q k n (T.setTop (mkF m pc ls (.int z :: rest))) := by
  subst hpc
  obtain ⟨T', h', cA, X', e', E', A', st⟩ := newP X hx hZ w1 eT (g := mkF m pc ls (.int z :: rest)) rfl hd rfl hz hcap hb hc hl
  exact own_of st (w T' h' cA _ rfl X' e' E' A')
theorem own_initO (X : Stand p l e R s m args below meth c T locs cells slots) (hx : p.tables.exec = Jvm.exec) (hZ : Z.Warmed39 s.vm) {own : String} {idx : Nat} (hown : s.vm.findClass own = some m.cls) (w1 : (Jvm.Cond.methodLink own idx Lib.objectInit).before a0 Z = true) (w2 : (Jvm.Cond.instanceMethod Lib.objectInit).before a0 Z = true) (w3 : (Jvm.Cond.code Lib.objectInit ⟨#[0xb1]⟩ 1 none).before a0 Z = true) (eT : T.heap = h) (hsz : ls.size = c.maxLocals) {b : Addr} (hd : decode c.code pc = .ok (.invokespecial idx, 3)) (hf : 1 ≤ R.frames) {W : Nat} (hW : (rest.map fun v => v.category).sum ≤ W) (hl : W + 12 ≤ R.locals) (hpc : pc + 3 = pc')
    (w : ∀ T', Stand p l e R s m args below meth c T' locs cells slots → T'.heap = h → own_WP p e below FE Q k n (T'.setTop (mkF m pc' ls rest))) : own_WP p e below FE Q k n (T.setTop (mkF m pc ls (.ref b :: rest))) := by
  subst hpc
  obtain ⟨T', X', e', st⟩ := initO X hx hZ hown w1 w2 w3 eT (g := mkF m pc ls (.ref b :: rest)) rfl hsz rfl hd hf (W := W) (by show 2 * 0 + _ ≤ _; omega) hl
  exact own_of st (w T' X' e')
theorem own_callS (X : Stand p l e R s m args below meth c T locs cells slots) (hx : p.tables.exec = Jvm.exec) (hZ : Z.Warmed39 s.vm) {own : String} {idx : Nat} {y : MethodName} {bytes : ByteArray} {maxL : Nat} {ret : Option FieldType} {rm : Room} {as' : Array Value} {Q' : Option Value → Heap → List Loc → Prop} (hown : s.vm.findClass own = some m.cls) (w1 : (Jvm.Cond.methodLink own idx y).before a0 Z = true) (w2 : (Jvm.Cond.static y).before a0 Z = true) (w3 : (Jvm.Cond.initialized y.cls).before a0 Z = true) (w4 : (Jvm.Cond.code y bytes maxL ret).before a0 Z = true) (hy : y.cls ≠ "java/lang/invoke/MethodHandle" ∧ y.cls ≠ "java/lang/invoke/VarHandle")
    (C : own_Con l Z y bytes maxL ret rm as' h Q') (eT : T.heap = h) {ps : List FieldType} {rt : Option FieldType} (hpd : parseMethodDescriptor y.desc = some ⟨ps, rt⟩) (argsL rest : List Value) (ha : argsL.toArray = as') (hal : argsL.length = ps.length) {st : List Value} (hst : st = argsL.reverse ++ rest) {W : Nat} (hW : (rest.map fun v => v.category).sum ≤ W) (hf : rm.frames + 1 ≤ R.frames) (hl : W + (maxL + 11) + rm.locals ≤ R.locals) (hsz : ls.size = c.maxLocals) (hd : decode c.code pc = .ok (.invokestatic idx, 3)) (hc : cells + rm.cells ≤ R.cells) (hs : slots + rm.slots ≤ R.slots) (hpc : pc + 3 = pc')
    (w : ∀ v T' L, Stand p l e R s m args below meth c T' (locs ++ L) (cells + rm.cells) (slots + rm.slots) → Q' v T'.heap L → own_WP p e below FE Q k n (T'.setTop (mkF m pc' ls (v.toList ++ rest)))) : own_WP p e below FE Q k n (T.setTop (mkF m pc ls st)) := by
  subst hpc hst ha
  obtain ⟨v, vm1, ⟨T', L', k', n'⟩, -, X', ⟨Lc, hQ, l1, y1, z1⟩, stp⟩ := Jvm.LawKit.callS X hx (y := y) hown (mvT hZ w1) (mvT hZ w2) (mvT hZ w3) (mvT hZ w4) hy (backOf (W := W) (C []) hZ w4 w3 hf hl) (g := mkF m pc ls (argsL.reverse ++ rest)) rfl hsz (argsL := argsL) (rest := rest) (lenOf hpd hal) rfl (by show 2 * 0 + _ ≤ _; omega) hd (fun _ _ => ⟨rfl, eT, hc, hs⟩)
  dsimp only [Pt.U, Pt.locs, Pt.cells, Pt.slots] at X' l1 y1 z1 stp hQ
  subst l1 y1 z1
  exact own_of stp (w _ _ _ X' hQ)
theorem own_callN (X : Stand p l e R s m args below meth c T locs cells slots) (hx : p.tables.exec = Jvm.exec) (hZ : Z.Warmed39 s.vm) {own : String} {idx : Nat} {y : MethodName} {bytes : ByteArray} {maxL : Nat} {rm : Room} {as' : Array Value} {Q' : Option Value → Heap → List Loc → Prop} (hy1 : y.name = "<init>") (hown : s.vm.findClass own = some m.cls) (w1 : (Jvm.Cond.methodLink own idx y).before a0 Z = true) (w2 : (Jvm.Cond.instanceMethod y).before a0 Z = true) (w3 : (Jvm.Cond.initialized y.cls).before a0 Z = true) (w4 : (Jvm.Cond.code y bytes maxL none).before a0 Z = true) (hy : y.cls ≠ "java/lang/invoke/MethodHandle" ∧ y.cls ≠ "java/lang/invoke/VarHandle")
    (C : own_Con l Z y bytes maxL none rm as' h Q') (eT : T.heap = h) {ps : List FieldType} {rt : Option FieldType} (hpd : parseMethodDescriptor y.desc = some ⟨ps, rt⟩) (b : Addr) (argsL rest : List Value) (ha : (.ref b :: argsL).toArray = as') (hal : argsL.length = ps.length) {st : List Value} (hst : st = argsL.reverse ++ .ref b :: rest) {W : Nat} (hW : (rest.map fun v => v.category).sum ≤ W) (hf : rm.frames + 1 ≤ R.frames) (hl : W + (maxL + 11) + rm.locals ≤ R.locals) (hsz : ls.size = c.maxLocals) (hd : decode c.code pc = .ok (.invokespecial idx, 3)) (hc : cells + rm.cells ≤ R.cells) (hs : slots + rm.slots ≤ R.slots) (hpc : pc + 3 = pc')
    (w : ∀ v T' L, Stand p l e R s m args below meth c T' (locs ++ L) (cells + rm.cells) (slots + rm.slots) → Q' v T'.heap L → own_WP p e below FE Q k n (T'.setTop (mkF m pc' ls (v.toList ++ rest)))) : own_WP p e below FE Q k n (T.setTop (mkF m pc ls st)) := by
  subst hpc hst ha
  obtain ⟨v, vm1, ⟨T', L', k', n'⟩, -, X', ⟨Lc, hQ, l1, y1, z1⟩, stp⟩ := X.specialBack hx (y := y) hy1 hown (mvT hZ w1) (mvT hZ w2) (mvT hZ w4) hy (backOf (W := W) (C []) hZ w4 w3 hf hl) (g := mkF m pc ls (argsL.reverse ++ .ref b :: rest)) rfl hsz (Steps.refl _) (a := b) (argsL := argsL) (rest := rest) (lenOf hpd hal) rfl (by show 2 * 0 + _ ≤ _; omega) hd (fun _ _ => ⟨rfl, eT, hc, hs⟩)
  dsimp only [Pt.U, Pt.locs, Pt.cells, Pt.slots] at X' l1 y1 z1 stp hQ
  subst l1 y1 z1
  exact own_of (fun t q => stp.trans q) (w _ _ _ X' hQ)
theorem own_callV (X : Stand p l e R s m args below meth c T locs cells slots) (hx : p.tables.exec = Jvm.exec) (hZ : Z.Warmed39 s.vm) {own D : String} {idx : Nat} {y z : MethodName} {bytes : ByteArray} {maxL : Nat} {ret : Option FieldType} {rm : Room} {as' : Array Value} {Q' : Option Value → Heap → List Loc → Prop} (hown : s.vm.findClass own = some m.cls) (w1 : (Jvm.Cond.methodLink own idx y).before a0 Z = true) (wd : (Jvm.Cond.declares y).before a0 Z = true) (hnf : NotFace s y) (ws : (Jvm.Cond.selects D y z).before a0 Z = true) (w2 : (Jvm.Cond.instanceMethod z).before a0 Z = true) (w3 : (Jvm.Cond.initialized z.cls).before a0 Z = true) (w4 : (Jvm.Cond.code z bytes maxL ret).before a0 Z = true) (hy : y.cls ≠ "java/lang/invoke/MethodHandle" ∧ y.cls ≠ "java/lang/invoke/VarHandle") {b : Addr} (E : Exa Z h b D)
    (C : own_Con l Z z bytes maxL ret rm as' h Q') (eT : T.heap = h) {ps : List FieldType} {rt : Option FieldType} (hpd : parseMethodDescriptor y.desc = some ⟨ps, rt⟩) (argsL rest : List Value) (ha : (.ref b :: argsL).toArray = as') (hal : argsL.length = ps.length) {st : List Value} (hst : st = argsL.reverse ++ .ref b :: rest) {W : Nat} (hW : (rest.map fun v => v.category).sum ≤ W) (hf : rm.frames + 1 ≤ R.frames) (hl : W + (maxL + 11) + rm.locals ≤ R.locals) (hsz : ls.size = c.maxLocals) (hd : decode c.code pc = .ok (.invokevirtual idx, 3)) (hc : cells + rm.cells ≤ R.cells) (hs : slots + rm.slots ≤ R.slots) (hpc : pc + 3 = pc')
    (w : ∀ v T' L, Stand p l e R s m args below meth c T' (locs ++ L) (cells + rm.cells) (slots + rm.slots) → Q' v T'.heap L → own_WP p e below FE Q k n (T'.setTop (mkF m pc' ls (v.toList ++ rest)))) : own_WP p e below FE Q k n (T.setTop (mkF m pc ls st)) := by
  subst hpc hst ha
  obtain ⟨cq, kq, qa, qb, qc⟩ := isOf (T := T) hZ eT E
  obtain ⟨v, vm1, ⟨T', L', k', n'⟩, -, X', ⟨Lc, hQ, l1, y1, z1⟩, stp⟩ := X.virtualBack hx (y := y) (z := z) hown (mvT hZ w1) (mvT hZ wd) hnf (mvT hZ ws) (mvT hZ w2) hy (backOf (W := W) (C []) hZ w4 w3 hf hl) qa qc (g := mkF m pc ls (argsL.reverse ++ .ref b :: rest)) rfl hsz (Steps.refl _) (argsL := argsL) (rest := rest) (lenOf hpd hal) rfl (by show 2 * 0 + _ ≤ _; omega) hd (fun _ _ => ⟨rfl, eT, hc, hs⟩)
  dsimp only [Pt.U, Pt.locs, Pt.cells, Pt.slots] at X' l1 y1 z1 stp hQ
  subst l1 y1 z1
  exact own_of (fun t q => stp.trans q) (w _ _ _ X' hQ)

theorem own_baload (X : Stand p l e R s m args below meth c T locs cells slots) (hx : p.tables.exec = Jvm.exec) (hZ : Z.Warmed39 s.vm) (eT : T.heap = h) {b : Addr} {kk : ClassId} {z j : Int32} {vs : List Value} {dv v : Value} (F : Arv Z h b kk .byte z vs dv) (hj : ¬ j < 0 ∧ j < z) (hv : vs.getD j.toNatClampNeg dv = v) (hd : decode c.code pc = .ok (.baload, 1)) (hpc : pc + 1 = pc') (w : own_WP p e below FE Q k n (T.setTop (mkF m pc' ls (v :: rest)))) : own_WP p e below FE Q k n (T.setTop (mkF m pc ls (.int j :: .ref b :: rest))) := by
  subst hpc
  obtain ⟨cl, A, q1, S, q3, H, G⟩ := F
  exact own_of (fun t q => X.baloadBytes hx (j := j) (v := v) (by rw [eT]; exact A.1) (State.isArrayOf_alike hZ.alike A.2.1) A.2.2 (inb_of S hj) (H.at (inb_of S hj) hv) (g := mkF m pc ls (.int j :: .ref b :: rest)) rfl rfl hd _ q) w
theorem own_caload (X : Stand p l e R s m args below meth c T locs cells slots) (hx : p.tables.exec = Jvm.exec) (hZ : Z.Warmed39 s.vm) (eT : T.heap = h) {b : Addr} {kk : ClassId} {z j : Int32} {vs : List Value} {dv v : Value} (F : Arv Z h b kk .char z vs dv) (hj : ¬ j < 0 ∧ j < z) (hv : vs.getD j.toNatClampNeg dv = v) (hd : decode c.code pc = .ok (.caload, 1)) (hpc : pc + 1 = pc') (w : own_WP p e below FE Q k n (T.setTop (mkF m pc' ls (v :: rest)))) : own_WP p e below FE Q k n (T.setTop (mkF m pc ls (.int j :: .ref b :: rest))) := by
  subst hpc
  obtain ⟨cl, A, q1, S, q3, H, G⟩ := F
  exact own_of (fun t q => X.caload hx (j := j) (v := v) (by rw [eT]; exact A.1) (State.isArrayOf_alike hZ.alike A.2.1) A.2.2 (inb_of S hj) (H.at (inb_of S hj) hv) (g := mkF m pc ls (.int j :: .ref b :: rest)) rfl rfl hd _ q) w
theorem own_bastore (X : Stand p l e R s m args below meth c T locs cells slots) (hx : p.tables.exec = Jvm.exec) (hZ : Z.Warmed39 s.vm) (eT : T.heap = h) {b : Addr} {kk : ClassId} {z j : Int32} {vs : List Value} {dv : Value} {x : Int32} (F : Arv Z h b kk .byte z vs dv) (hj : ¬ j < 0 ∧ j < z) (i : Nat) (hi : j.toNatClampNeg = i) (hlen : i < vs.length) (hd : decode c.code pc = .ok (.bastore, 1)) (hpc : pc + 1 = pc') (w : ∀ T' h', Stand p l e R s m args below meth c T' (locs ++ [⟨b, j.toNatClampNeg⟩]) cells slots → T'.heap = h' → Wr h h' b j.toNatClampNeg (.int (nar .byte x)) → Arv Z h' b kk .byte z (vs.set i (.int (nar .byte x))) dv → own_WP p e below FE Q k n (T'.setTop (mkF m pc' ls rest))) : own_WP p e below FE Q k n (T.setTop (mkF m pc ls (.int x :: .int j :: .ref b :: rest))) := by
  subst hpc
  obtain ⟨cl, A, q1, S, q3, H, G⟩ := F
  obtain ⟨T', h', X', e', W', st⟩ := stB X hx hZ eT A (j := j) (inb_of S hj) (g := mkF m pc ls (.int x :: .int j :: .ref b :: rest)) rfl rfl hd
  exact own_of st (w T' h' X' e' W' (Arv.set A q1 S q3 H G (fits_nar_byte x) W' i hi hlen))
theorem own_arrlen (X : Stand p l e R s m args below meth c T locs cells slots) (hx : p.tables.exec = Jvm.exec) (hZ : Z.Warmed39 s.vm) (eT : T.heap = h) {b : Addr} {kk : ClassId} {z : Int32} {vs : List Value} {dv : Value} {ty : FieldType} (F : Arv Z h b kk ty z vs dv) (hd : decode c.code pc = .ok (.arraylength, 1)) (hpc : pc + 1 = pc') (w : own_WP p e below FE Q k n (T.setTop (mkF m pc' ls (.int z :: rest)))) : own_WP p e below FE Q k n (T.setTop (mkF m pc ls (.ref b :: rest))) := by
  subst hpc
  obtain ⟨cl, A, q1, S, q3, H, G⟩ := F
  refine own_of (fun t q => X.arraylength hx (by rw [eT]; exact A.1) (State.isArrayOf_alike hZ.alike A.2.1) (g := mkF m pc ls (.ref b :: rest)) rfl rfl hd _ ?_) w
  rw [len_of S q3]
  exact q
end OwnWP
/-! own_: bodies that may intern -/
theorem own_FW {s0 : State} {vm1 : Vm} {k1 : Nat} {T : State} {k n : Nat} (hS : s0.Since vm1 k1) (hk : k1 ≤ T.heap.size) : ∀ o s₂ L, s₂.heap = T.heap → FrameEnd (s0.setVm vm1) o s₂ L k n → ReturnedEndW s0 o s₂ L k n := by
  intro o s₂ L hh ⟨h1, h2, h3⟩
  obtain ⟨a, b, c'⟩ := hS.ended (U := s₂) h2 (by rw [hh]; exact hk) h3
  exact ⟨h1, a, b, c'⟩
def own_Old (Z : State) (n0 : Nat) (h : Heap) : Prop := Old Z Z.heap.size h ∧ Z.heap.size ≤ n0
theorem own_Old.x {Z : State} {h : Heap} {n0 : Nat} (X : own_Old Z n0 h) : Ext Z.heap h := X.1.2
theorem own_Old.ext {Z : State} {h h' : Heap} {n0 : Nat} (X : own_Old Z n0 h) (E : Ext h h') : own_Old Z n0 h' := ⟨X.1.ext E, X.2⟩
theorem own_Old.keep {Z : State} {h h' : Heap} {n0 : Nat} {ws : List Addr} (X : own_Old Z n0 h) (K : Keep h h' ws) (q : ∀ x ∈ ws, n0 ≤ x) : own_Old Z n0 h' := ⟨X.1.keep K fun x hx => Nat.le_trans X.2 (q x hx), X.2⟩
theorem own_Old.wr {Z : State} {h h' : Heap} {n0 : Nat} {a : Addr} {sl : Nat} {v : Value} (X : own_Old Z n0 h) (W : Wr h h' a sl v) (q : n0 ≤ a) : own_Old Z n0 h' := ⟨X.1.wr W (Nat.le_trans X.2 q), X.2⟩
section OwnStr
variable {p : Program} {l : Launch} {e : Env} {R : Room} {s : State} {m : MethodId} {args : Array Value} {below : List Frame} {meth : Method} {c : Code} {T : State} {locs : List Loc} {cells slots : Nat} {Z : State} {a0 : Array Value} {h : Heap} {Q : Option Value → Heap → List Loc → Prop} {FE : Outcome → State → List Loc → Nat → Nat → Prop} {k n : Nat} {a a' : State} {pc pc' : Nat} {ls l' : Array Slot} {rest : List Value}
theorem own_getS (X : Stand p l e R s m args below meth c T locs cells slots) (hx : p.tables.exec = Jvm.exec) (hZ : Z.Warmed39 s.vm) {own R0 O nm d host : String} {idx : Nat} (hown : s.vm.findClass own = some m.cls) (w1 : (Jvm.Cond.fieldLink own idx R0 nm d).before a0 Z = true ∨ (Jvm.Cond.fieldLinkNest own idx R0 nm d host).before a0 Z = true) (via : Via Z R0 O nm d) (eT : T.heap = h) {v : Value} (F' : Sta Z h O nm d v) (hd : decode c.code pc = .ok (.getstatic idx, 3)) (hpc : pc + 3 = pc')
    (w : ∀ T', Stand p l e R s m args below meth c T' locs cells slots → T'.heap = h → own_WP p e below FE Q k n (T'.setTop (mkF m pc' ls (v :: rest)))) : own_WP p e below FE Q k n (T.setTop (mkF m pc ls rest)) := by
  subst hpc
  obtain ⟨T', X', e', st⟩ := getS2 X hx hZ hown w1 via eT F' (g := mkF m pc ls rest) rfl hd
  exact own_of st (w T' X' e')
def own_BA (Z : State) (k : ClassId) : Prop := Z.vm.findClass "[B" = some k
theorem own_exB {b : Addr} {kd : ClassId} {z : Int32} {vs : List Value} {dv : Value} (A : Arv Z h b kd .byte z vs dv) (B : own_BA Z kd) : Exa Z h b "[B" := by
  obtain ⟨cl, A, q1, S, q3, H, G⟩ := A
  obtain ⟨hs, kc, hk, comp, hkind⟩ := A.2.1
  subst q1
  exact ⟨cl, kc, A.1, B, hk, by cases hq : cl.vm <;> first | rfl | exact absurd hq (hs _), fun q => by rw [hkind] at q; cases q⟩
theorem own_newPB (X : Stand p l e R s m args below meth c T locs cells slots) (hx : p.tables.exec = Jvm.exec) (hZ : Z.Warmed39 s.vm) (w1 : (Jvm.Cond.arrayClass (newarray.typeOf .byte)).before a0 Z = true) (eT : T.heap = h) (hd : decode c.code pc = .ok (.newarray .byte, 2)) {z : Int32} (hz : ¬ z < 0) {cap : Nat} (hcap : z.toNatClampNeg ≤ cap) (hb : cap * 8 ≤ 536870912) (hc : cells + 1 ≤ R.cells) (hl : slots + cap ≤ R.slots) (hpc : pc + 2 = pc')
    (w : ∀ T' h' cA b, b = h.size → Stand p l e R s m args below meth c T' locs (cells + 1) (slots + cap) → T'.heap = h' → Ext h h' → Arr Z h' b (newA cA (newarray.typeOf .byte) z) (newarray.typeOf .byte) → own_BA Z cA → own_WP p e below FE Q k n (T'.setTop (mkF m pc' ls (.ref b :: rest)))) : own_WP p e below FE Q k n (T.setTop (mkF m pc ls (.int z :: rest))) := by
  subst hpc
  obtain ⟨T', h', cA, X', e', E', A', F', st⟩ := newPE X hx hZ w1 eT (g := mkF m pc ls (.int z :: rest)) rfl hd rfl hz hcap hb hc hl (ad := "[B") (by decide)
  refine own_of st (w T' h' cA _ rfl X' e' E' A' ?_)
  obtain ⟨c2, k2, e1, e2, -⟩ := F'
  cases A'.1.symm.trans e1
  exact e2
theorem own_clone (X : Stand p l e R s m args below meth c T locs cells slots) (hx : p.tables.exec = Jvm.exec) (hZ : Z.Warmed39 s.vm) {own : String} {idx : Nat} (hown : s.vm.findClass own = some m.cls)
    (w1 : (Cond.methodLink own idx ⟨"[B", "clone", "()Ljava/lang/Object;"⟩).before a0 Z = true) (w2 : (Cond.sameMethod "[B" "java/lang/Object" "clone" "()Ljava/lang/Object;").before a0 Z = true) (w3 : (Cond.native ⟨"java/lang/Object", "clone", "()Ljava/lang/Object;"⟩).before a0 Z = true)
    (w4 : (Cond.instanceMethod ⟨"java/lang/Object", "clone", "()Ljava/lang/Object;"⟩).before a0 Z = true) (w5 : (Cond.selects "[B" ⟨"[B", "clone", "()Ljava/lang/Object;"⟩ ⟨"java/lang/Object", "clone", "()Ljava/lang/Object;"⟩).before a0 Z = true) (w6 : (Cond.castable "[B" "java/lang/Cloneable").before a0 Z = true)
    (eT : T.heap = h) {a : Addr} {kd : ClassId} {z : Int32} {vs : List Value} {dv : Value} (F : Arv Z h a kd .byte z vs dv) (B : own_BA Z kd) (hsz : ls.size = c.maxLocals) (hd : decode c.code pc = .ok (.invokevirtual idx, 3))
    (hf : 1 ≤ R.frames) {W cap : Nat} (hW : (rest.map fun v => v.category).sum ≤ W) (hl : W + 14 ≤ R.locals) (hcap : z.toNatClampNeg ≤ cap) (hc : cells + 1 ≤ R.cells) (hsl : slots + cap ≤ R.slots) (hpc : pc + 3 = pc')
    (w : ∀ T' h' b, b = h.size → Stand p l e R s m args below meth c T' locs (cells + 1) (slots + cap) → T'.heap = h' → Ext h h' → Arv Z h' b kd .byte z vs dv → Exa Z h' b "[B" → own_WP p e below FE Q k n (T'.setTop (mkF m pc' ls (.ref b :: rest)))) : own_WP p e below FE Q k n (T.setTop (mkF m pc ls (.ref a :: rest))) := by
  subst hpc
  obtain ⟨T', h', X', e', ex, A', E', st⟩ := cloneH X hx hZ hown w1 w2 w3 w4 w5 w6 eT (hs := []) F (own_exB F B) (g := mkF m pc ls (.ref a :: rest)) rfl hsz rfl hd hf (W := W) (by show 2 * 0 + _ ≤ _; omega) hl hcap hc hsl
  exact own_of st (w T' h' _ rfl X' e' ex A' E')
theorem own_castore (X : Stand p l e R s m args below meth c T locs cells slots) (hx : p.tables.exec = Jvm.exec) (hZ : Z.Warmed39 s.vm) (eT : T.heap = h) {b : Addr} {kk : ClassId} {z j : Int32} {vs : List Value} {dv : Value} {x : Int32} (F : Arv Z h b kk .char z vs dv) (hj : ¬ j < 0 ∧ j < z) (i : Nat) (hi : j.toNatClampNeg = i) (hlen : i < vs.length) (hd : decode c.code pc = .ok (.castore, 1)) (hpc : pc + 1 = pc') (w : ∀ T' h', Stand p l e R s m args below meth c T' (locs ++ [⟨b, j.toNatClampNeg⟩]) cells slots → T'.heap = h' → Wr h h' b j.toNatClampNeg (.int (nar .char x)) → Arv Z h' b kk .char z (vs.set i (.int (nar .char x))) dv → own_WP p e below FE Q k n (T'.setTop (mkF m pc' ls rest))) : own_WP p e below FE Q k n (T.setTop (mkF m pc ls (.int x :: .int j :: .ref b :: rest))) := by
  subst hpc
  obtain ⟨cl, A, q1, S, q3, H, G⟩ := F
  obtain ⟨T', h', X', e', W', st⟩ := stC X hx hZ eT A (j := j) (inb_of S hj) (g := mkF m pc ls (.int x :: .int j :: .ref b :: rest)) rfl rfl hd
  exact own_of st (w T' h' X' e' W' (Arv.set A q1 S q3 H G (fits_nar_char x) W' i hi hlen))
theorem own_nnY (X : Stand p l e R s m args below meth c T locs cells slots) (hx : p.tables.exec = Jvm.exec) {b : Addr} {o : Int} (hd : decode c.code pc = .ok (.ifnonnull o, 3)) (ho : 0 ≤ (pc : Int) + o) (hpc : ((pc : Int) + o).toNat = pc') (w : own_WP p e below FE Q k n (T.setTop (mkF m pc' ls rest))) : own_WP p e below FE Q k n (T.setTop (mkF m pc ls (.ref b :: rest))) :=
  own_of (fun t q => XS.ifnonnullYes X.here hx rfl (pc0 := pc) (pc' := pc') rfl hd rfl ho hpc q) w
theorem own_castY (X : Stand p l e R s m args below meth c T locs cells slots) (hx : p.tables.exec = Jvm.exec) (hZ : Z.Warmed39 s.vm) {own K : String} {idx : Nat} (hown : s.vm.findClass own = some m.cls) (w1 : (Jvm.Cond.classLink own idx K).before a0 Z = true) (eT : T.heap = h) {b : Addr} (F : Ins Z h b K true) (hd : decode c.code pc = .ok (.checkcast idx, 3)) (hpc : pc + 3 = pc')
    (w : ∀ T', Stand p l e R s m args below meth c T' locs cells slots → T'.heap = h → own_WP p e below FE Q k n (T'.setTop (mkF m pc' ls (.ref b :: rest)))) : own_WP p e below FE Q k n (T.setTop (mkF m pc ls (.ref b :: rest))) := by
  subst hpc
  obtain ⟨T', X', e', st⟩ := castY X hx hZ hown w1 eT F (g := mkF m pc ls (.ref b :: rest)) rfl rfl hd
  exact own_of st (w T' X' e')
theorem own_nif {D : String} {y : MethodName} (ws : (Jvm.Cond.selects D y y).before a0 Z = true) : ∃ c k, Z.vm.findClass y.cls = some c ∧ Z.vm.classes[c]? = some k ∧ k.isInterface = false := by
  obtain ⟨c, r, m, q1, q2, q3, q4, mk, hmk, hni⟩ := Cond.selects_spec ws
  exact ⟨m.cls, mk, findClass_of_methodNamed q3, hmk, hni⟩
theorem own_notface {D : String} {y y1 : MethodName} (he : y.cls = y1.cls) (ws : (Jvm.Cond.selects D y1 y1).before a0 s = true) : NotFace s y := fun r0 h0 => by
  obtain ⟨c, k, hc, hk, hni⟩ := own_nif ws
  have q := findClass_of_methodNamed h0
  rw [he] at q
  cases hc.symm.trans q
  exact ⟨k, hk, hni⟩
theorem own_same {y : MethodName} (hy : y.cls ≠ "java/lang/invoke/MethodHandle" ∧ y.cls ≠ "java/lang/invoke/VarHandle") (wi : (Jvm.Cond.instanceMethod y).before a0 Z = true) (wn : ∃ c k, Z.vm.findClass y.cls = some c ∧ Z.vm.classes[c]? = some k ∧ k.isInterface = false) : (Jvm.Cond.sameMethod y.cls y.cls y.name y.desc).before a0 Z = true := by
  obtain ⟨mk, methM, hnamed, hmethM, -, -⟩ := Cond.instanceMethod_spec wi
  have hfound : Z.methodFound? y.cls y.name y.desc = some mk := State.methodFound?_of_named hnamed hy
  obtain ⟨c, k, hc, hk, hni⟩ := wn
  have hn : Z.methodNamed? ⟨y.cls, y.name, y.desc⟩ = some mk := hnamed
  simp only [Cond.before, Cond.holds, Cond.value, hc, hfound, hn, hk]
  simp [hni]
theorem own_callP (X : Stand p l e R s m args below meth c T locs cells slots) (hx : p.tables.exec = Jvm.exec) (hZ : Z.Warmed39 s.vm) {own D K : String} {idx : Nat} {y : MethodName} {bytes : ByteArray} {maxL : Nat} {ret : Option FieldType} {rm : Room} {as' : Array Value} {Q' : Option Value → Heap → List Loc → Prop} {b : Addr} (hown : s.vm.findClass own = some m.cls) (w1 : (Jvm.Cond.methodLink own idx y).before a0 Z = true) (w2 : (Jvm.Cond.instanceMethod y).before a0 Z = true) (wp : (Jvm.Cond.privateMethod y).before a0 Z = true) (ws : (Jvm.Cond.selects D y y).before a0 Z = true) (w3 : (Jvm.Cond.initialized y.cls).before a0 Z = true) (w4 : (Jvm.Cond.code y bytes maxL ret).before a0 Z = true) (hy : y.cls ≠ "java/lang/invoke/MethodHandle" ∧ y.cls ≠ "java/lang/invoke/VarHandle") (E : Exa Z h b K)
    (C : own_Con l Z y bytes maxL ret rm as' h Q') (eT : T.heap = h) {ps : List FieldType} {rt : Option FieldType} (hpd : parseMethodDescriptor y.desc = some ⟨ps, rt⟩) (argsL rest : List Value) (ha : (.ref b :: argsL).toArray = as') (hal : argsL.length = ps.length) {st : List Value} (hst : st = argsL.reverse ++ .ref b :: rest) {W : Nat} (hW : (rest.map fun v => v.category).sum ≤ W) (hf : rm.frames + 1 ≤ R.frames) (hl : W + (maxL + 11) + rm.locals ≤ R.locals) (hsz : ls.size = c.maxLocals) (hd : decode c.code pc = .ok (.invokevirtual idx, 3)) (hc : cells + rm.cells ≤ R.cells) (hs : slots + rm.slots ≤ R.slots) (hpc : pc + 3 = pc')
    (w : ∀ v T' L, Stand p l e R s m args below meth c T' (locs ++ L) (cells + rm.cells) (slots + rm.slots) → Q' v T'.heap L → own_WP p e below FE Q k n (T'.setTop (mkF m pc' ls (v.toList ++ rest)))) : own_WP p e below FE Q k n (T.setTop (mkF m pc ls st)) := by
  subst hpc hst ha
  have wsS : (Jvm.Cond.selects D y y).before #[] s = true := mvT hZ ws
  obtain ⟨c2, k2, hc2, hk2, hni2⟩ := own_nif wsS
  have hpv := Cond.privateMethod_at (args := args) (mvT hZ wp)
  have hsel := selects_self_of_private (args := args) hc2 hk2 hni2 hpv (mvT hZ w2) hy
  obtain ⟨cell, kk, q1, q2, q3, q4, -⟩ := E
  have hcell : T.heap[b]? = some cell := by rw [eT]; exact q1
  obtain ⟨v, vm1, ⟨T', L', k', n'⟩, -, X', ⟨Lc, hQ, l1, y1, z1⟩, stp⟩ := X.privateBack hx (y := y) hown (mvT hZ w1) (mvT hZ w2) hsel hpv (mvT hZ w4) hy (backOf (W := W) (C []) hZ w4 w3 hf hl) (g := mkF m pc ls (argsL.reverse ++ .ref b :: rest)) rfl hsz (Steps.refl _) (a := b) hcell (fun q r => by rw [r] at q4; cases q4) (argsL := argsL) (rest := rest) (lenOf hpd hal) rfl (by show 2 * 0 + _ ≤ _; omega) hd (fun _ _ => ⟨rfl, eT, hc, hs⟩)
  dsimp only [Pt.U, Pt.locs, Pt.cells, Pt.slots] at X' l1 y1 z1 stp hQ
  subst l1 y1 z1
  exact own_of (fun t q => stp.trans q) (w _ _ _ X' hQ)
theorem own_callSup (X : Stand p l e R s m args below meth c T locs cells slots) (hx : p.tables.exec = Jvm.exec) (hZ : Z.Warmed39 s.vm) {own K : String} {idx : Nat} {y : MethodName} {bytes : ByteArray} {maxL : Nat} {ret : Option FieldType} {rm : Room} {as' : Array Value} {Q' : Option Value → Heap → List Loc → Prop} {b : Addr} (hown : s.vm.findClass own = some m.cls) (w1 : (Jvm.Cond.methodLink own idx y).before a0 Z = true) (w2 : (Jvm.Cond.instanceMethod y).before a0 Z = true) (wsm : (Jvm.Cond.sameMethod y.cls y.cls y.name y.desc).before a0 Z = true) (wsu : (Jvm.Cond.superclass own y.cls).before a0 Z = true) (hn : y.name ≠ "<init>") (w3 : (Jvm.Cond.initialized y.cls).before a0 Z = true) (w4 : (Jvm.Cond.code y bytes maxL ret).before a0 Z = true) (E : Exa Z h b K)
    (C : own_Con l Z y bytes maxL ret rm as' h Q') (eT : T.heap = h) {ps : List FieldType} {rt : Option FieldType} (hpd : parseMethodDescriptor y.desc = some ⟨ps, rt⟩) (argsL rest : List Value) (ha : (.ref b :: argsL).toArray = as') (hal : argsL.length = ps.length) {st : List Value} (hst : st = argsL.reverse ++ .ref b :: rest) {W : Nat} (hW : (rest.map fun v => v.category).sum ≤ W) (hf : rm.frames + 1 ≤ R.frames) (hl : W + (maxL + 11) + rm.locals ≤ R.locals) (hsz : ls.size = c.maxLocals) (hd : decode c.code pc = .ok (.invokespecial idx, 3)) (hc : cells + rm.cells ≤ R.cells) (hs : slots + rm.slots ≤ R.slots) (hpc : pc + 3 = pc')
    (w : ∀ v T' L, Stand p l e R s m args below meth c T' (locs ++ L) (cells + rm.cells) (slots + rm.slots) → Q' v T'.heap L → own_WP p e below FE Q k n (T'.setTop (mkF m pc' ls (v.toList ++ rest)))) : own_WP p e below FE Q k n (T.setTop (mkF m pc ls st)) := by
  subst hpc hst ha
  obtain ⟨v, vm1, ⟨T', L', k', n'⟩, -, X', ⟨Lc, hQ, l1, y1, z1⟩, stp⟩ := superBack X hx hZ (y := y) hown w1 wsm w2 wsu hn (backOf (W := W) (C []) hZ w4 w3 hf hl) eT (Ins.self E) (g := mkF m pc ls (argsL.reverse ++ .ref b :: rest)) rfl hsz w4 (argsL := argsL) (rest := rest) (lenOf hpd hal) rfl (by show 2 * 0 + _ ≤ _; omega) hd (fun _ _ => ⟨rfl, eT, hc, hs⟩)
  dsimp only [Pt.U, Pt.locs, Pt.cells, Pt.slots] at X' l1 y1 z1 stp hQ
  subst l1 y1 z1
  exact own_of (fun t q => stp.trans q) (w _ _ _ X' hQ)
theorem own_cpA (X : Stand p l e R s m args below meth c T locs cells slots) (hx : p.tables.exec = Jvm.exec) (hZ : Z.Warmed39 s.vm) {own : String} {idx : Nat} (hown : s.vm.findClass own = some m.cls)
    (w1 : (Jvm.Cond.methodLink own idx Jvm.Stand.acN).before a0 Z = true) (w2 : (Jvm.Cond.native Jvm.Stand.acN).before a0 Z = true) (w3 : (Jvm.Cond.static Jvm.Stand.acN).before a0 Z = true) (w4 : (Jvm.Cond.initialized "java/lang/System").before a0 Z = true) (eT : T.heap = h)
    {x b : Addr} {k1 k2 : ClassId} {z z' sp dp nn : Int32} {vs vd us : List Value} {dv dd : Value} (A : Arv Z h x k1 .byte z vs dv) (B : Arv Z h b k2 .byte z' vd dd)
    (h1 : ¬ sp < 0) (h2 : ¬ dp < 0) (h3 : ¬ nn < 0) (h4 : sp.toNatClampNeg + nn.toNatClampNeg ≤ z.toNatClampNeg) (h5 : dp.toNatClampNeg + nn.toNatClampNeg ≤ z'.toNatClampNeg)
    (hus : us = (List.range nn.toNatClampNeg).map fun i => vs.getD (sp.toNatClampNeg + i) dv) (hl : dp.toNatClampNeg + nn.toNatClampNeg ≤ vd.length) {n0 : Nat} (N : Fr n0 locs) (ge : n0 ≤ b) (hsz : ls.size = c.maxLocals) (hd : decode c.code pc = .ok (.invokestatic idx, 3))
    (hf : 1 ≤ R.frames) {W : Nat} (hW : (rest.map fun v => v.category).sum ≤ W) (hlo : W + (nativeFrameWords "java/lang/System" "arraycopy" 5 + 11) ≤ R.locals) (hpc : pc + 3 = pc')
    (w : ∀ T' h' L, Stand p l e R s m args below meth c T' L cells slots → T'.heap = h' → Fr n0 L → Keep h h' [b] → Arv Z h' b k2 .byte z' (vd.take dp.toNatClampNeg ++ us ++ vd.drop (dp.toNatClampNeg + nn.toNatClampNeg)) dd → own_WP p e below FE Q k n (T'.setTop (mkF m pc' ls rest))) : own_WP p e below FE Q k n (T.setTop (mkF m pc ls (.int nn :: .int dp :: .ref b :: .int sp :: .ref x :: rest))) := by
  subst hpc
  obtain ⟨T', h', L, X', e', N', K', V', st⟩ := cpA X hx hZ hown w1 w2 w3 w4 eT A B (Or.inl ⟨rfl, rfl⟩) h1 h2 h3 h4 h5 hus hl N ge (g := mkF m pc ls (.int nn :: .int dp :: .ref b :: .int sp :: .ref x :: rest)) rfl hsz rfl hd hf (W := W) (by show 2 * 0 + _ ≤ _; omega) hlo
  exact own_of st (w T' h' L X' e' N' K' V')
end OwnStr

def own_G (Z : State) (G1 : Int32) (fm : Value) : Prop := Sta Z Z.heap "java/lang/String" "COMPACT_STRINGS" "Z" (.int G1) ∧ ¬ G1 = 0 ∧ Sta Z Z.heap "jdk/internal/util/Preconditions" "SIOOBE_FORMATTER" "Ljava/util/function/BiFunction;" fm ∧ fm.isRef = true
def own_ch (b : Int32) : Int32 := b &&& 255
theorem own_isbE {v x : Int32} (h : v = x.toInt8.toInt32) : nar .byte v = v := by
  rw [h]
  show (x.toInt8.toInt32).toInt8.toInt32 = x.toInt8.toInt32
  simp
theorem own_us {vs : List Value} {dv : Value} {sp n : Nat} (h : sp + n ≤ vs.length) : (vs.drop sp).take n = (List.range n).map (fun i => vs.getD (sp + i) dv) := by
  apply List.ext_getElem
  · simp; omega
  · intro i h1 h2
    simp at h1 h2 ⊢
    rw [List.getElem?_eq_getElem (by omega)]
    rfl
theorem own_cpl {vd us : List Value} {p n : Nat} (h : p + n ≤ vd.length) (hu : us.length = n) : (vd.take p ++ us ++ vd.drop (p + n)).length = vd.length ∧ (vd.take p ++ us ++ vd.drop (p + n)).take (p + n) = vd.take p ++ us := by
  constructor
  · simp; omega
  · rw [List.take_append_of_le_length (by simp; omega)]
    exact List.take_of_length_le (by simp; omega)
theorem own_ne2 {x d d' : Addr} {n : Nat} (h1 : x ≠ d) (h2 : x < n) (h : d' = d ∨ n ≤ d') : x ≠ d' := by
  rcases h with rfl | h
  · exact h1
  · exact Nat.ne_of_lt (Nat.lt_of_lt_of_le h2 h)
def own_cap (cap mi : Int) : Int := if mi ≤ cap then cap else max mi (2 * cap + 2)
theorem own_cap_ge {cap mi : Int} : mi ≤ own_cap cap mi := by unfold own_cap; split <;> omega
theorem own_cap_le {cap mi : Int} (h0 : 0 ≤ cap) (h1 : cap ≤ 80) (h2 : mi ≤ 162) : 0 ≤ own_cap cap mi ∧ own_cap cap mi ≤ 162 := by unfold own_cap; split <;> omega
def own_dgs (a k : Nat) : Prop := 1 ≤ k ∧ a < 10 ^ k ∧ (k = 1 ∨ 10 ^ (k - 1) ≤ a)
theorem own_dgs_uniq {a k k' : Nat} (h : own_dgs a k) (h' : own_dgs a k') : k = k' := by
  obtain ⟨h1, h2, h3⟩ := h
  obtain ⟨g1, g2, g3⟩ := h'
  have key : ∀ {x y : Nat}, 1 ≤ x → a < 10 ^ x → (y = 1 ∨ 10 ^ (y - 1) ≤ a) → y ≤ x := by
    intro x y hx ha hy
    rcases hy with rfl | hy
    · exact hx
    · have q : 10 ^ (y - 1) < 10 ^ x := Nat.lt_of_le_of_lt hy ha
      have r := (Nat.pow_lt_pow_iff_right (by decide : 1 < 10)).mp q
      omega
  have a1 := key h1 h2 g3
  have a2 := key g1 g2 h3
  omega
theorem own_negJ {x v : Int64} (h : v = -x) (h0 : 0 ≤ x.toInt) : v.toInt = -x.toInt := by
  have q := c_lneg x; have r := rng64 x; have r2 := rng64 (-x); rw [h]; omega
theorem own_t0 : Int32.toNatClampNeg 0 = 0 := rfl
theorem own_shl0 (x : Int32) : x <<< ((0 : Int32) &&& 31) = x := by simp
theorem own_shr0 (x : Int32) : x >>> ((0 : Int32) &&& 31) = x := by simp
theorem own_nat {x : Int32} (h : 0 ≤ x.toInt) : (x.toNatClampNeg : Int) = x.toInt := by
  have q := nat_of (j := x) (by rw [Int32.lt_iff_toInt_lt]; show ¬ x.toInt < 0; omega)
  omega
theorem own_nn {x : Int32} (h : 0 ≤ x.toInt) : ¬ x < 0 := by rw [Int32.lt_iff_toInt_lt]; show ¬ x.toInt < 0; omega
theorem own_mx {a b r : Int32} (h : r = if a < b then b else a) : r.toInt = max a.toInt b.toInt := by
  rw [h]
  split
  · rename_i q; rw [Int32.lt_iff_toInt_lt] at q; omega
  · rename_i q; rw [Int32.lt_iff_toInt_lt] at q; omega
theorem own_mn {a b r : Int32} (h : r = if b < a then b else a) : r.toInt = min a.toInt b.toInt := by
  rw [h]
  split
  · rename_i q; rw [Int32.lt_iff_toInt_lt] at q; omega
  · rename_i q; rw [Int32.lt_iff_toInt_lt] at q; omega
theorem own_add {a b z : Int32} (h : z = a + b) (h1 : -1000000 ≤ a.toInt ∧ a.toInt ≤ 1000000) (h2 : -1000000 ≤ b.toInt ∧ b.toInt ≤ 1000000) : z.toInt = a.toInt + b.toInt := by
  have q := c_iadd a b; have r := rng32 (a + b); rw [h]; omega
theorem own_sub {a b z : Int32} (h : z = a - b) (h1 : -1000000 ≤ a.toInt ∧ a.toInt ≤ 1000000) (h2 : -1000000 ≤ b.toInt ∧ b.toInt ≤ 1000000) : z.toInt = a.toInt - b.toInt := by
  have q := c_isub a b; have r := rng32 (a - b); rw [h]; omega
def own_by (c : Int32) : Int32 := c.toInt8.toInt32
theorem own_ch_c (b : Int32) : nar .char ((b &&& (255 : Int32)).toUInt32.toUInt16.toUInt32.toInt32) = own_ch b := by
  rw [i2c_mask]
  exact i2c_mask b
theorem own_ch_n (b : Int32) : nar .char (own_ch b) = own_ch b := i2c_mask b

/-! own_: bodies that may intern a literal -/
def own_FE (Z s : State) (Ts : List String) (o : Outcome) (s₂ : State) (L : List Loc) (k n : Nat) : Prop := ReturnedEndW s o s₂ L k n ∧ Z.Warmed39 s₂.vm ∧ IB Z s₂.vm Ts
def own_ConW (l : Launch) (Z : State) (y : MethodName) (bytes : ByteArray) (maxL : Nat) (ret : Option FieldType) (rm : Room) (as' : Array Value) (h0 : Heap) (Ts Ts' : List String) (Q : Option Value → Heap → List Loc → Prop) : Prop :=
  ∀ ws, MetFree l y (head1 (Jvm.Cond.code y bytes maxL ret :: ws) rm) (fun a U => a = as' ∧ Z.Warmed39 U.vm ∧ U.heap = h0 ∧ IB Z U.vm Ts) (fun _ _ _ _ _ => True) (fun _ U o U' => ∃ v L, o = .returned v ∧ Q v U'.heap L ∧ own_FE Z U Ts' o U' L rm.cells rm.slots)
theorem own_ConW_of {l : Launch} {Z : State} {y : MethodName} {bytes : ByteArray} {maxL : Nat} {ret : Option FieldType} {rm : Room} {as' : Array Value} {h0 : Heap} {Ts Ts' : List String} {Q : Option Value → Heap → List Loc → Prop} (hp : plainFor y = true)
    (hb : ∀ (p : Program) (e : Env) (s : State) (vm0 : Vm) (m : MethodId) (below : List Frame) (meth : Method) (c : Code) (s₁ : State), Stand p l e rm (s.setVm vm0) m as' below meth c s₁ [] 0 0 → p.tables.exec = Jvm.exec → c.code = bytes → c.maxLocals = maxL → meth.sig.returnType = ret → meth.locks = false → meth.name = y.name → vm0.findClass y.cls = some m.cls → Z.Warmed39 vm0 → s₁.heap = h0 → s.heap = h0 → IB Z vm0 Ts → s.Since vm0 h0.size →
      own_WP p e below (own_FE Z s Ts') Q rm.cells rm.slots (s₁.setTop (entryFrame m as' maxL))) : own_ConW l Z y bytes maxL ret rm as' h0 Ts Ts' Q := by
  intro ws
  refine MetFree.of_bodySF hp hisR ?_
  intro p e s m args below meth c s₁ Bd hml0 hP hK
  obtain ⟨rfl, hZ, hh, hI⟩ := hP
  have X := Stand.of_body Bd
  exact hb p e s s.vm m below meth c s₁ X Bd.exec Bd.bytes hml0 Bd.returns Bd.notSynchronized (name_of_methodNamed Bd.named Bd.method).1 (findClass_of_methodNamed Bd.named) hZ (by rw [← hh, Bd.state]; rfl) hh hI ((State.WarmedH.refl s).since _)
theorem own_neL {a b x n H : Nat} (h : (a < n ∧ b < n) ∨ (H ≤ a ∧ H ≤ b)) (g : n ≤ x) (hx : x < H) : a ≠ x ∧ b ≠ x := by omega
section OwnWide
variable {p : Program} {l : Launch} {e : Env} {R : Room} {s : State} {m : MethodId} {args : Array Value} {below : List Frame} {meth : Method} {c : Code} {T : State} {locs : List Loc} {cells slots : Nat} {Z : State} {a0 : Array Value} {h : Heap} {Q : Option Value → Heap → List Loc → Prop} {FE : Outcome → State → List Loc → Nat → Nat → Prop} {k n : Nat} {a a' : State} {pc pc' : Nat} {ls l' : Array Slot} {rest : List Value} {vm0 : Vm} {Ts Ts' : List String}
theorem own_FW2 {k1 : Nat} (hZ : Z.Warmed39 vm0) (I : IB Z vm0 Ts) (hS : s.Since vm0 k1) (hk : k1 ≤ T.heap.size) : ∀ o s₂ L, s₂.heap = T.heap → FrameEnd (s.setVm vm0) o s₂ L k n → own_FE Z s Ts o s₂ L k n := by
  intro o s₂ L hh hF
  refine ⟨own_FW hS hk o s₂ L hh hF, ?_, ?_⟩
  · exact State.Warmed39.trans (t := s.setVm vm0) hZ hF.2.1.wide
  · obtain ⟨more, e, hm⟩ := I
    exact ⟨more, by rw [hF.2.1.interned_eq]; exact e, hm⟩
theorem own_ldcS {own text : String} {idx : Nat} (X : Stand p l e R (s.setVm vm0) m args below meth c T locs cells slots) (hx : p.tables.exec = Jvm.exec) (hZ : Z.Warmed39 vm0) (hown : vm0.findClass own = some m.cls) (w1 : (Cond.stringLink own idx text).before a0 Z = true) (wS : ∀ a ∈ Bundle.stringAtoms, a.before a0 Z = true)
    (eT : T.heap = h) {k0 n0 : Nat} (hS : s.Since vm0 k0) (hk : k0 ≤ h.size) (N : Fr n0 locs) (hn0 : s.heap.size = n0) (hkeep : ∀ (b : Addr) (cl : Cell), Z.heap[b]? = some cl → s.heap[b]? = some cl) (I : IB Z vm0 Ts) (hnot : text ∉ Ts) (hh : Jvm.Lit.constHeld Z own idx) (hcw : Jvm.Lit.compactW.before a0 Z = true)
    {vs : List Value} {z : Int32} (ht : (∀ c ∈ text.toList, c.toNat < 256) ∧ text.toList.map (fun c => Value.int (Jvm.Lit.byteI c.toNat.toUInt16)) = vs) (hz : ¬ z < 0) (hl : z.toNatClampNeg = vs.length) (hd : decode c.code pc = .ok (.ldc idx, 2)) {nn : Nat} (hn : 4 * text.toList.length ≤ nn) (hbig : nn ≤ 536870912) (hc : cells + 2 ≤ R.cells) (hl' : slots + (nn + 4) ≤ R.slots) (hpc : pc + 2 = pc')
    (w : ∀ (a : Addr) (T' : State) (h' : Heap) (k1 : Nat) (b : Addr) (kb : ClassId), Stand p l e R (s.setVm T'.vm) m args below meth c T' locs (cells + 2) (slots + (nn + 4)) → T'.heap = h' → Ext h h' → s.Since T'.vm k1 → k1 ≤ h'.size → Z.Warmed39 T'.vm → T'.vm.findClass own = some m.cls →
      Exa Z h' a "java/lang/String" → Fld Z h' a "java/lang/String" "coder" "B" (.int 0) → Fld Z h' a "java/lang/String" "value" "[B" (.ref b) → Arv Z h' b kb .byte z vs (.int 0) → IB Z T'.vm (text :: Ts) → Lit (s.setVm T'.vm) own idx a → ((a < n0 ∧ b < n0) ∨ (h.size ≤ a ∧ h.size ≤ b)) → own_WP p e below FE Q k n (T'.setTop (mkF m pc' ls (.ref a :: rest)))) : own_WP p e below FE Q k n (T.setTop (mkF m pc ls rest)) := by
  subst hpc hn0
  obtain ⟨a, T', h', k1, b, kb, X', e', E', hS', hk', hZ', hown', q1, q2, q3, q4, -, -, I', L', hor, st⟩ := ldcSVd X hx hZ hown w1 wS eT hS hk N hkeep I hnot hh hcw ht hz hl (g := mkF m pc ls rest) rfl hd hn hbig hc hl'
  exact own_of st (w a T' h' k1 b kb X' e' E' hS' hk' hZ' hown' q1 q2 q3 q4 I' L' hor)
theorem own_ldcA {own text : String} {idx : Nat} (X : Stand p l e R (s.setVm vm0) m args below meth c T locs cells slots) (hx : p.tables.exec = Jvm.exec) (hZ : Z.Warmed39 vm0) (hown : vm0.findClass own = some m.cls) (w1 : (Cond.stringLink own idx text).before a0 Z = true) {a : Addr} (L : Lit (s.setVm vm0) own idx a) (hd : decode c.code pc = .ok (.ldc idx, 2)) (hpc : pc + 2 = pc') (w : own_WP p e below FE Q k n (T.setTop (mkF m pc' ls (.ref a :: rest)))) : own_WP p e below FE Q k n (T.setTop (mkF m pc ls rest)) := by
  subst hpc
  exact own_of (ldcAgain X hx hZ hown w1 L (g := mkF m pc ls rest) rfl hd) w
theorem own_head {w : Jvm.Cond} {a : Array Value} {U : State} {rm : Room} (h : w.before a U = true) : (head1 [w] rm).pre.before a U = true := by
  show (Jvm.Cond.and w .tt).before a U = true
  simp only [Cond.before_and, h, Bool.true_and]
  rfl
theorem own_backG {y : MethodName} {bytes : ByteArray} {maxL : Nat} {ret : Option FieldType} {rm : Room} {len W : Nat} {as' : Array Value} {Q' : Option Value → Heap → List Loc → Prop} {P1 K1 : Vm → Prop} {R1 : Vm → Heap → Vm → Heap → Prop}
    (hM : MetFree l y (head1 [Jvm.Cond.code y bytes maxL ret] rm) (fun a U => a = as' ∧ Z.Warmed39 U.vm ∧ U.heap = h ∧ P1 U.vm) (fun _ _ _ _ _ => True) (fun _ U o U' => ∃ v L, o = .returned v ∧ Q' v U'.heap L ∧ ReturnedEndW U o U' L rm.cells rm.slots ∧ R1 U.vm U.heap U'.vm U'.heap))
    (hZ : Z.Warmed39 vm0) (hp1 : ∀ {m : MethodId} {meth : Method} {c : Code} {A : Pt}, Stand p l e R (s.setVm vm0) m args below meth c A.U A.locs A.cells A.slots → P1 A.U.vm ∧ K1 A.U.vm) (wc : (Cond.code y bytes maxL ret).before a0 Z = true) (wz : (Cond.initialized y.cls).before a0 Z = true) (hf : rm.frames + 1 ≤ R.frames) (hl : W + (maxL + 11) + rm.locals ≤ R.locals) :
    BackS l R p e below (s.setVm vm0) args y len W (fun A a => a = as' ∧ A.U.heap = h ∧ A.cells + rm.cells ≤ R.cells ∧ A.slots + rm.slots ≤ R.slots)
      (fun A _ v B => (∃ vmU, K1 vmU ∧ R1 vmU h B.U.vm B.U.heap) ∧ ∃ L, Q' v B.U.heap L ∧ B.locs = A.locs ++ L ∧ B.cells = A.cells + rm.cells ∧ B.slots = A.slots + rm.slots) := by
  have hU : ∀ {m : MethodId} {meth : Method} {c : Code} {A : Pt}, Stand p l e R (s.setVm vm0) m args below meth c A.U A.locs A.cells A.slots → Z.Warmed39 A.U.vm := fun Y => State.Warmed39.trans (t := s.setVm vm0) hZ Y.warmed.wide
  refine BackS.of_freeW (bytes := bytes) (maxL := maxL) (ret := ret) (E := fun _ U o t L k n => (k = rm.cells ∧ n = rm.slots) ∧ R1 U.vm U.heap t.vm t.heap ∧ ∃ v, o = .returned v ∧ Q' v t.heap L) hM hf hl ?_ ?_ ?_ ?_ ?_
  · intro m meth c A a Y hp
    have c1 : (Cond.code y bytes maxL ret).before a A.U = true := mv (hU Y) wc
    exact ⟨own_head c1, c1, mv (hU Y) wz, hp.2.2⟩
  · intro m meth c A a g mk Y hp
    exact ⟨hp.1, hU Y, hp.2.1, (hp1 Y).1⟩
  · intros; trivial
  · rintro a U o t ⟨v, L, h1, h2, h3, h4⟩
    exact ⟨L, rm.cells, rm.slots, h3, ⟨rfl, rfl⟩, h4, v, h1, h2⟩
  · intro m meth c A a g mk v t L k n Y hp _ _ hE
    obtain ⟨⟨rfl, rfl⟩, hR, v', hv, hq⟩ := hE
    cases hv
    have hh : (A.U.calling g mk a).heap = h := hp.2.1
    rw [hh] at hR
    exact ⟨⟨A.U.vm, (hp1 Y).2, hR⟩, L, hq, rfl, rfl, rfl⟩
theorem own_callNW (X : Stand p l e R (s.setVm vm0) m args below meth c T locs cells slots) (hx : p.tables.exec = Jvm.exec) (hZ : Z.Warmed39 vm0) {own : String} {idx : Nat} {y : MethodName} {bytes : ByteArray} {maxL : Nat} {rm : Room} {as' : Array Value} {Q' : Option Value → Heap → List Loc → Prop} {b : Addr} (hy1 : y.name = "<init>") (hown : vm0.findClass own = some m.cls) (w1 : (Jvm.Cond.methodLink own idx y).before a0 Z = true) (w2 : (Jvm.Cond.instanceMethod y).before a0 Z = true) (w3 : (Jvm.Cond.initialized y.cls).before a0 Z = true) (w4 : (Jvm.Cond.code y bytes maxL none).before a0 Z = true) (hy : y.cls ≠ "java/lang/invoke/MethodHandle" ∧ y.cls ≠ "java/lang/invoke/VarHandle")
    (C : own_ConW l Z y bytes maxL none rm as' h Ts Ts' Q') (eT : T.heap = h) (I : IB Z vm0 Ts) {k0 : Nat} (hS : s.Since vm0 k0) (hk : k0 ≤ h.size) {ps : List FieldType} {rt : Option FieldType} (hpd : parseMethodDescriptor y.desc = some ⟨ps, rt⟩) (argsL rest : List Value) (ha : (.ref b :: argsL).toArray = as') (hal : argsL.length = ps.length) {st : List Value} (hst : st = argsL.reverse ++ .ref b :: rest) {W : Nat} (hW : (rest.map fun v => v.category).sum ≤ W) (hf : rm.frames + 1 ≤ R.frames) (hl : W + (maxL + 11) + rm.locals ≤ R.locals) (hsz : ls.size = c.maxLocals) (hd : decode c.code pc = .ok (.invokespecial idx, 3)) (hc : cells + rm.cells ≤ R.cells) (hs : slots + rm.slots ≤ R.slots) (hpc : pc + 3 = pc')
    (w : ∀ v T' L k1, Stand p l e R (s.setVm T'.vm) m args below meth c T' (locs ++ L) (cells + rm.cells) (slots + rm.slots) → s.Since T'.vm k1 → k1 ≤ T'.heap.size → Z.Warmed39 T'.vm → T'.vm.findClass own = some m.cls → IB Z T'.vm Ts' → Q' v T'.heap L → own_WP p e below FE Q k n (T'.setTop (mkF m pc' ls (v.toList ++ rest)))) : own_WP p e below FE Q k n (T.setTop (mkF m pc ls st)) := by
  subst hpc hst ha
  obtain ⟨v, vm1, ⟨T', L', k', n'⟩, -, X', hS', hgr, ⟨⟨-, -, hZ', hI'⟩, Lc, hQ, l1, y1, z1⟩, stp⟩ := specialBackS X hx (y := y) hy1 hown (mvT (s := s.setVm vm0) hZ w1) (mvT (s := s.setVm vm0) hZ w2) (mvT (s := s.setVm vm0) hZ w4) hy (own_backG (W := W) (P1 := fun vm => IB Z vm Ts) (K1 := fun _ => True) (R1 := fun _ _ vm _ => Z.Warmed39 vm ∧ IB Z vm Ts') (C []) hZ (fun Y => ⟨by obtain ⟨more, e, hm⟩ := I; exact ⟨more, Y.warmed.interned_eq.trans e, hm⟩, trivial⟩) w4 w3 hf hl) (g := mkF m pc ls (argsL.reverse ++ .ref b :: rest)) rfl hsz (Steps.refl _) (a := b) (argsL := argsL) (rest := rest) (lenOf hpd hal) rfl (by show 2 * 0 + _ ≤ _; omega) hd (fun _ _ => ⟨rfl, eT, hc, hs⟩)
  dsimp only [Pt.U, Pt.locs, Pt.cells, Pt.slots] at X' l1 y1 z1 stp hQ hS' hgr hZ' hI'
  subst l1 y1 z1
  exact own_of (fun t q => stp.trans q) (w _ _ _ _ X' (hS.trans hS' (Nat.le_trans hk (by rw [← eT]; exact hgr))) (Nat.le_refl _) hZ' (by rw [hS'.1.alike.findClass]; exact hown) hI' hQ)
theorem own_callVW (X : Stand p l e R (s.setVm vm0) m args below meth c T locs cells slots) (hx : p.tables.exec = Jvm.exec) (hZ : Z.Warmed39 vm0) {own D : String} {idx : Nat} {y z : MethodName} {bytes : ByteArray} {maxL : Nat} {ret : Option FieldType} {rm : Room} {as' : Array Value} {Q' : Option Value → Heap → List Loc → Prop} {b : Addr} (hown : vm0.findClass own = some m.cls) (w1 : (Jvm.Cond.methodLink own idx y).before a0 Z = true) (wd : (Jvm.Cond.declares y).before a0 Z = true) (hnf : NotFace (s.setVm vm0) y) (ws : (Jvm.Cond.selects D y z).before a0 Z = true) (w2 : (Jvm.Cond.instanceMethod z).before a0 Z = true) (w3 : (Jvm.Cond.initialized z.cls).before a0 Z = true) (w4 : (Jvm.Cond.code z bytes maxL ret).before a0 Z = true) (hy : y.cls ≠ "java/lang/invoke/MethodHandle" ∧ y.cls ≠ "java/lang/invoke/VarHandle") (E : Exa Z h b D)
    (C : own_ConW l Z z bytes maxL ret rm as' h Ts Ts' Q') (eT : T.heap = h) (I : IB Z vm0 Ts) {k0 : Nat} (hS : s.Since vm0 k0) (hk : k0 ≤ h.size) {ps : List FieldType} {rt : Option FieldType} (hpd : parseMethodDescriptor y.desc = some ⟨ps, rt⟩) (argsL rest : List Value) (ha : (.ref b :: argsL).toArray = as') (hal : argsL.length = ps.length) {st : List Value} (hst : st = argsL.reverse ++ .ref b :: rest) {W : Nat} (hW : (rest.map fun v => v.category).sum ≤ W) (hf : rm.frames + 1 ≤ R.frames) (hl : W + (maxL + 11) + rm.locals ≤ R.locals) (hsz : ls.size = c.maxLocals) (hd : decode c.code pc = .ok (.invokevirtual idx, 3)) (hc : cells + rm.cells ≤ R.cells) (hs : slots + rm.slots ≤ R.slots) (hpc : pc + 3 = pc')
    (w : ∀ v T' L k1, Stand p l e R (s.setVm T'.vm) m args below meth c T' (locs ++ L) (cells + rm.cells) (slots + rm.slots) → s.Since T'.vm k1 → k1 ≤ T'.heap.size → Z.Warmed39 T'.vm → T'.vm.findClass own = some m.cls → IB Z T'.vm Ts' → Q' v T'.heap L → own_WP p e below FE Q k n (T'.setTop (mkF m pc' ls (v.toList ++ rest)))) : own_WP p e below FE Q k n (T.setTop (mkF m pc ls st)) := by
  subst hpc hst ha
  obtain ⟨cq, kq, qa, qb, qc⟩ := isOf (s := s.setVm vm0) (T := T) hZ eT E
  obtain ⟨v, vm1, ⟨T', L', k', n'⟩, -, X', hS', hgr, ⟨⟨-, -, hZ', hI'⟩, Lc, hQ, l1, y1, z1⟩, stp⟩ := virtualBackS X hx (y := y) (z := z) hown (mvT (s := s.setVm vm0) hZ w1) (mvT (s := s.setVm vm0) hZ wd) hnf (mvT (s := s.setVm vm0) hZ ws) (mvT (s := s.setVm vm0) hZ w2) hy (own_backG (W := W) (P1 := fun vm => IB Z vm Ts) (K1 := fun _ => True) (R1 := fun _ _ vm _ => Z.Warmed39 vm ∧ IB Z vm Ts') (C []) hZ (fun Y => ⟨by obtain ⟨more, e, hm⟩ := I; exact ⟨more, Y.warmed.interned_eq.trans e, hm⟩, trivial⟩) w4 w3 hf hl) qa qc (g := mkF m pc ls (argsL.reverse ++ .ref b :: rest)) rfl hsz (Steps.refl _) (argsL := argsL) (rest := rest) (lenOf hpd hal) rfl (by show 2 * 0 + _ ≤ _; omega) hd (fun _ _ => ⟨rfl, eT, hc, hs⟩)
  dsimp only [Pt.U, Pt.locs, Pt.cells, Pt.slots] at X' l1 y1 z1 stp hQ hS' hgr hZ' hI'
  subst l1 y1 z1
  exact own_of (fun t q => stp.trans q) (w _ _ _ _ X' (hS.trans hS' (Nat.le_trans hk (by rw [← eT]; exact hgr))) (Nat.le_refl _) hZ' (by rw [hS'.1.alike.findClass]; exact hown) hI' hQ)
end OwnWide

theorem d12_0 : decode jdk_42_method_152_code 0 = .ok (.getstatic 38, 3) := by decide +kernel
theorem d12_3 : decode jdk_42_method_152_code 3 = .ok (.ifCond .eq 10, 3) := by decide +kernel
theorem d12_6 : decode jdk_42_method_152_code 6 = .ok (.aload_n 0, 1) := by decide +kernel
theorem d12_7 : decode jdk_42_method_152_code 7 = .ok (.getfield 15, 3) := by decide +kernel
theorem d12_10 : decode jdk_42_method_152_code 10 = .ok (.goto 4, 3) := by decide +kernel
theorem d12_14 : decode jdk_42_method_152_code 14 = .ok (.ireturn, 1) := by decide +kernel
theorem pn_12 : plainFor (⟨"java/lang/String", "coder", "()B"⟩ : MethodName) = true := plainFor_of_name (by first | (simp [plainName, overriddenIn]; done) | decide +kernel)
theorem ef_con_coder (m : MethodId) (a : Addr) : entryFrame m #[(.ref a)] 1 = mkF m 0 #[.val (.ref a)] [] := by first | (simp [entryFrame, mkF, argsToLocals, Value.category]; done) | rfl
set_option maxRecDepth 65536 in
set_option maxHeartbeats 4000000 in
theorem con_coder (l : Launch) (Z : State) (a0 : Array Value) (hw : ∀ d ∈ tables_1, d.before a0 Z = true) (a : Addr) (h0 : Heap) (n0 : Nat) (Z0 : n0 ≤ h0.size) (G1 : Int32) (fm : Value) (hG : own_G Z G1 fm) (X00 : own_Old Z n0 h0) (hC : Fld Z h0 a "java/lang/String" "coder" "B" (.int (0 : Int32))) :
    own_Con l Z (⟨"java/lang/String", "coder", "()B"⟩ : MethodName) jdk_42_method_152_code 1 (some .byte) ({ frames := 0, cells := 0, slots := 0, locals := 0 } : Room) #[(.ref a)] h0 (fun v h L => ∃ z : Int32, v = some (.int z) ∧ (z = 0) ∧ L = [] ∧ h = h0) := by
  refine own_Con_of pn_12 ?_
  intro p e s m below meth c s₁ X0 hx hby hml hret hlk hnm hown hZ e0
  have hown : s.vm.findClass "java/lang/String" = some m.cls := hown
  have hml : c.maxLocals = 1 := hml
  show own_WP _ _ _ _ _ _ _ (s₁.setTop (entryFrame m #[(.ref a)] 1))
  rw [ef_con_coder m a]
  refine own_getS (pc' := 3) X0 hx hZ hown (host := "") (Or.inl (own_w hw 83 rfl)) Via.refl e0 (hG.1.ext X00.x) (hb hby d12_0) rfl ?_
  intro T1 X1 e1
  refine own_if_eq (pt := 13) (pf := 6) X1 hx (hb hby d12_3) rfl (by decide) rfl (fun hc3 => absurd hc3 (hG.2.1)) (fun hc3 => ?_)
  refine own_aloadN (pc' := 7) X1 hx (hb hby d12_6) rfl rfl rfl ?_
  refine own_getF (pc' := 10) X1 hx hZ hown (host := "") (Or.inl (own_w hw 22 rfl)) Via.refl e1 hC (hb hby d12_7) rfl ?_
  intro T2 X2 e2
  refine own_goto (pc' := 14) X2 hx (hb hby d12_10) (by decide) rfl ?_
  refine own_retN X2 hx (fun _ _ _ _ q => q) hlk (t := .byte) (by decide) hret (hb hby d12_14) (by decide) (by decide) ?_
  exact ⟨(0 : Int32), rfl, rfl, rfl, e2⟩
theorem d11_0 : decode jdk_42_method_54_code 0 = .ok (.aload_n 0, 1) := by decide +kernel
theorem d11_1 : decode jdk_42_method_54_code 1 = .ok (.getfield 9, 3) := by decide +kernel
theorem d11_4 : decode jdk_42_method_54_code 4 = .ok (.arraylength, 1) := by decide +kernel
theorem d11_5 : decode jdk_42_method_54_code 5 = .ok (.aload_n 0, 1) := by decide +kernel
theorem d11_6 : decode jdk_42_method_54_code 6 = .ok (.invokevirtual 335, 3) := by decide +kernel
theorem d11_9 : decode jdk_42_method_54_code 9 = .ok (.ishr, 1) := by decide +kernel
theorem d11_10 : decode jdk_42_method_54_code 10 = .ok (.ireturn, 1) := by decide +kernel
theorem pn_11 : plainFor (⟨"java/lang/String", "length", "()I"⟩ : MethodName) = true := plainFor_of_name (by first | (simp [plainName, overriddenIn]; done) | decide +kernel)
theorem ef_con_length (m : MethodId) (a : Addr) : entryFrame m #[(.ref a)] 1 = mkF m 0 #[.val (.ref a)] [] := by first | (simp [entryFrame, mkF, argsToLocals, Value.category]; done) | rfl
theorem pd0 : parseMethodDescriptor "()B" = some ⟨[], some .byte⟩ := by decide +kernel
set_option maxRecDepth 65536 in
set_option maxHeartbeats 4000000 in
theorem con_length (l : Launch) (Z : State) (a0 : Array Value) (hw : ∀ d ∈ tables_1, d.before a0 Z = true) (a : Addr) (h0 : Heap) (n0 : Nat) (Z0 : n0 ≤ h0.size) (G1 : Int32) (fm : Value) (hG : own_G Z G1 fm) (X00 : own_Old Z n0 h0) (b : Addr) (kb : ClassId) (z1 : Int32) (vs : List Value) (hE : Exa Z h0 a "java/lang/String") (hC : Fld Z h0 a "java/lang/String" "coder" "B" (.int (0 : Int32))) (hV : Fld Z h0 a "java/lang/String" "value" "[B" (.ref b)) (hA : Arv Z h0 b kb .byte z1 vs (.int (0 : Int32))) :
    own_Con l Z (⟨"java/lang/String", "length", "()I"⟩ : MethodName) jdk_42_method_54_code 1 (some .int) ({ frames := 1, cells := 0, slots := 0, locals := 13 } : Room) #[(.ref a)] h0 (fun v h L => ∃ z : Int32, v = some (.int z) ∧ (z = z1) ∧ L = [] ∧ h = h0) := by
  refine own_Con_of pn_11 ?_
  intro p e s m below meth c s₁ X0 hx hby hml hret hlk hnm hown hZ e0
  have hown : s.vm.findClass "java/lang/String" = some m.cls := hown
  have hml : c.maxLocals = 1 := hml
  show own_WP _ _ _ _ _ _ _ (s₁.setTop (entryFrame m #[(.ref a)] 1))
  rw [ef_con_length m a]
  refine own_aloadN (pc' := 1) X0 hx (hb hby d11_0) rfl rfl rfl ?_
  refine own_getF (pc' := 4) X0 hx hZ hown (host := "") (Or.inl (own_w hw 21 rfl)) Via.refl e0 hV (hb hby d11_1) rfl ?_
  intro T1 X1 e1
  refine own_arrlen (pc' := 5) X1 hx hZ e1 hA (hb hby d11_4) rfl ?_
  refine own_aloadN (pc' := 6) X1 hx (hb hby d11_5) rfl rfl rfl ?_
  refine own_callV (pc' := 9) (W := 1) (y := (⟨"java/lang/String", "coder", "()B"⟩ : MethodName)) (z := (⟨"java/lang/String", "coder", "()B"⟩ : MethodName)) X1 hx hZ hown (own_w hw 78 rfl) (own_w hw 79 rfl) (notFace_of_selects (args := #[]) (mvT hZ (own_w hw 81 rfl))) (own_w hw 81 rfl) (own_w hw 80 rfl) (own_w hw 3 rfl) (own_w hw 82 rfl) (by decide) hE (con_coder l Z a0 hw a _ n0 Z0 G1 fm hG X00 hC) e1 pd0 [] [(.int z1)] rfl rfl rfl (Nat.le_of_eq rfl) (by decide) (by decide) (by rw [hml]; rfl) (hb hby d11_6) (by decide) (by decide) rfl ?_
  intro v2 T2 L2 X2 q2
  obtain ⟨r2, rfl, hr2, rfl, e2⟩ := q2
  show own_WP _ _ _ _ _ _ _ (T2.setTop (mkF m 9 #[.val (.ref a)] [(.int r2), (.int z1)]))
  refine own_ishr (pc' := 10) X2 hx (hb hby d11_9) rfl ?_
  refine own_retI X2 hx (fun _ _ _ _ q => q) hlk hret (hb hby d11_10) (by decide) (by decide) ?_
  exact ⟨(z1 >>> (r2 &&& 31)), rfl, by rw [hr2]; simp, rfl, e2⟩
theorem d32_0 : decode jdk_42_method_154_code 0 = .ok (.getstatic 38, 3) := by decide +kernel
theorem d32_3 : decode jdk_42_method_154_code 3 = .ok (.ifCond .eq 14, 3) := by decide +kernel
theorem d32_6 : decode jdk_42_method_154_code 6 = .ok (.aload_n 0, 1) := by decide +kernel
theorem d32_7 : decode jdk_42_method_154_code 7 = .ok (.getfield 15, 3) := by decide +kernel
theorem d32_10 : decode jdk_42_method_154_code 10 = .ok (.ifCond .ne 7, 3) := by decide +kernel
theorem d32_13 : decode jdk_42_method_154_code 13 = .ok (.iconst 1, 1) := by decide +kernel
theorem d32_14 : decode jdk_42_method_154_code 14 = .ok (.goto 4, 3) := by decide +kernel
theorem d32_18 : decode jdk_42_method_154_code 18 = .ok (.ireturn, 1) := by decide +kernel
theorem pn_32 : plainFor (⟨"java/lang/String", "isLatin1", "()Z"⟩ : MethodName) = true := plainFor_of_name (by first | (simp [plainName, overriddenIn]; done) | decide +kernel)
theorem ef_con_isL1 (m : MethodId) (a : Addr) : entryFrame m #[(.ref a)] 1 = mkF m 0 #[.val (.ref a)] [] := by first | (simp [entryFrame, mkF, argsToLocals, Value.category]; done) | rfl
set_option maxRecDepth 65536 in
set_option maxHeartbeats 4000000 in
theorem con_isL1 (l : Launch) (Z : State) (a0 : Array Value) (hw : ∀ d ∈ tables_1, d.before a0 Z = true) (a : Addr) (h0 : Heap) (n0 : Nat) (Z0 : n0 ≤ h0.size) (G1 : Int32) (fm : Value) (hG : own_G Z G1 fm) (X00 : own_Old Z n0 h0) (hC : Fld Z h0 a "java/lang/String" "coder" "B" (.int (0 : Int32))) :
    own_Con l Z (⟨"java/lang/String", "isLatin1", "()Z"⟩ : MethodName) jdk_42_method_154_code 1 (some .boolean) ({ frames := 0, cells := 0, slots := 0, locals := 0 } : Room) #[(.ref a)] h0 (fun v h L => ∃ z : Int32, v = some (.int z) ∧ (z = 1) ∧ L = [] ∧ h = h0) := by
  refine own_Con_of pn_32 ?_
  intro p e s m below meth c s₁ X0 hx hby hml hret hlk hnm hown hZ e0
  have hown : s.vm.findClass "java/lang/String" = some m.cls := hown
  have hml : c.maxLocals = 1 := hml
  show own_WP _ _ _ _ _ _ _ (s₁.setTop (entryFrame m #[(.ref a)] 1))
  rw [ef_con_isL1 m a]
  refine own_getS (pc' := 3) X0 hx hZ hown (host := "") (Or.inl (own_w hw 83 rfl)) Via.refl e0 (hG.1.ext X00.x) (hb hby d32_0) rfl ?_
  intro T1 X1 e1
  refine own_if_eq (pt := 17) (pf := 6) X1 hx (hb hby d32_3) rfl (by decide) rfl (fun hc3 => absurd hc3 (hG.2.1)) (fun hc3 => ?_)
  refine own_aloadN (pc' := 7) X1 hx (hb hby d32_6) rfl rfl rfl ?_
  refine own_getF (pc' := 10) X1 hx hZ hown (host := "") (Or.inl (own_w hw 22 rfl)) Via.refl e1 hC (hb hby d32_7) rfl ?_
  intro T2 X2 e2
  refine own_if_ne (pt := 17) (pf := 13) X2 hx (hb hby d32_10) rfl (by decide) rfl (fun hc10 => absurd (by decide) hc10) (fun hc10 => ?_)
  refine own_iconst (pc' := 14) X2 hx (1 : Int32) (hb hby d32_13) rfl rfl ?_
  refine own_goto (pc' := 18) X2 hx (hb hby d32_14) (by decide) rfl ?_
  refine own_retN X2 hx (fun _ _ _ _ q => q) hlk (t := .boolean) (by decide) hret (hb hby d32_18) (by decide) (by decide) ?_
  exact ⟨(1 : Int32), rfl, rfl, rfl, e2⟩
theorem d35_0 : decode jdk_41_method_11_code 0 = .ok (.iload_n 0, 1) := by decide +kernel
theorem d35_1 : decode jdk_41_method_11_code 1 = .ok (.ifCond .lt 8, 3) := by decide +kernel
theorem d35_4 : decode jdk_41_method_11_code 4 = .ok (.iload_n 0, 1) := by decide +kernel
theorem d35_5 : decode jdk_41_method_11_code 5 = .ok (.iload_n 1, 1) := by decide +kernel
theorem d35_6 : decode jdk_41_method_11_code 6 = .ok (.if_icmp .lt 10, 3) := by decide +kernel
theorem d35_16 : decode jdk_41_method_11_code 16 = .ok (.iload_n 0, 1) := by decide +kernel
theorem d35_17 : decode jdk_41_method_11_code 17 = .ok (.ireturn, 1) := by decide +kernel
theorem pn_35 : plainFor (⟨"jdk/internal/util/Preconditions", "checkIndex", "(IILjava/util/function/BiFunction;)I"⟩ : MethodName) = true := plainFor_of_name (by first | (simp [plainName, overriddenIn]; done) | decide +kernel)
theorem ef_con_ciP1 (m : MethodId) (i : Int32) (len : Int32) (fo : Addr) : entryFrame m #[(.int i), (.int len), (.ref fo)] 3 = mkF m 0 #[.val (.int i), .val (.int len), .val (.ref fo)] [] := by first | (simp [entryFrame, mkF, argsToLocals, Value.category]; done) | rfl
set_option maxRecDepth 65536 in
set_option maxHeartbeats 4000000 in
theorem con_ciP1 (l : Launch) (Z : State) (a0 : Array Value) (hw : ∀ d ∈ tables_1, d.before a0 Z = true) (i : Int32) (len : Int32) (fo : Addr) (h0 : Heap) (n0 : Nat) (Z0 : n0 ≤ h0.size) (hi : ¬ i < 0 ∧ i < len) :
    own_Con l Z (⟨"jdk/internal/util/Preconditions", "checkIndex", "(IILjava/util/function/BiFunction;)I"⟩ : MethodName) jdk_41_method_11_code 3 (some .int) ({ frames := 0, cells := 0, slots := 0, locals := 0 } : Room) #[(.int i), (.int len), (.ref fo)] h0 (fun v h L => ∃ z : Int32, v = some (.int z) ∧ (z = i) ∧ L = [] ∧ h = h0) := by
  refine own_Con_of pn_35 ?_
  intro p e s m below meth c s₁ X0 hx hby hml hret hlk hnm hown hZ e0
  have hown : s.vm.findClass "jdk/internal/util/Preconditions" = some m.cls := hown
  have hml : c.maxLocals = 3 := hml
  show own_WP _ _ _ _ _ _ _ (s₁.setTop (entryFrame m #[(.int i), (.int len), (.ref fo)] 3))
  rw [ef_con_ciP1 m i len fo]
  refine own_iloadN (pc' := 1) X0 hx (hb hby d35_0) rfl rfl ?_
  refine own_if_lt (pt := 9) (pf := 4) X0 hx (hb hby d35_1) rfl (by decide) rfl (fun hc1 => absurd hc1 (hi.1)) (fun hc1 => ?_)
  refine own_iloadN (pc' := 5) X0 hx (hb hby d35_4) rfl rfl ?_
  refine own_iloadN (pc' := 6) X0 hx (hb hby d35_5) rfl rfl ?_
  refine own_icmp_lt (pt := 16) (pf := 9) X0 hx (hb hby d35_6) rfl (by decide) rfl (fun hc6 => ?_) (fun hc6 => absurd (hi.2) hc6)
  refine own_iloadN (pc' := 17) X0 hx (hb hby d35_16) rfl rfl ?_
  refine own_retI X0 hx (fun _ _ _ _ q => q) hlk hret (hb hby d35_17) (by decide) (by decide) ?_
  exact ⟨i, rfl, rfl, rfl, e0⟩
theorem d34_0 : decode jdk_42_method_155_code 0 = .ok (.iload_n 0, 1) := by decide +kernel
theorem d34_1 : decode jdk_42_method_155_code 1 = .ok (.iload_n 1, 1) := by decide +kernel
theorem d34_2 : decode jdk_42_method_155_code 2 = .ok (.getstatic 1053, 3) := by decide +kernel
theorem d34_5 : decode jdk_42_method_155_code 5 = .ok (.invokestatic 1059, 3) := by decide +kernel
theorem d34_8 : decode jdk_42_method_155_code 8 = .ok (.pop, 1) := by decide +kernel
theorem d34_9 : decode jdk_42_method_155_code 9 = .ok (.return_, 1) := by decide +kernel
theorem pn_34 : plainFor (⟨"java/lang/String", "checkIndex", "(II)V"⟩ : MethodName) = true := plainFor_of_name (by first | (simp [plainName, overriddenIn]; done) | decide +kernel)
theorem ef_con_ciS1 (m : MethodId) (i : Int32) (len : Int32) : entryFrame m #[(.int i), (.int len)] 2 = mkF m 0 #[.val (.int i), .val (.int len)] [] := by first | (simp [entryFrame, mkF, argsToLocals, Value.category]; done) | rfl
theorem pd1 : parseMethodDescriptor "(IILjava/util/function/BiFunction;)I" = some ⟨[.int, .int, (.object "java/util/function/BiFunction")], some .int⟩ := by decide +kernel
set_option maxRecDepth 65536 in
set_option maxHeartbeats 4000000 in
theorem con_ciS1 (l : Launch) (Z : State) (a0 : Array Value) (hw : ∀ d ∈ tables_1, d.before a0 Z = true) (i : Int32) (len : Int32) (h0 : Heap) (n0 : Nat) (Z0 : n0 ≤ h0.size) (fo : Addr) (hF : Sta Z Z.heap "jdk/internal/util/Preconditions" "SIOOBE_FORMATTER" "Ljava/util/function/BiFunction;" (.ref fo)) (X00 : own_Old Z n0 h0) (hi : ¬ i < 0 ∧ i < len) :
    own_Con l Z (⟨"java/lang/String", "checkIndex", "(II)V"⟩ : MethodName) jdk_42_method_155_code 2 none ({ frames := 1, cells := 0, slots := 0, locals := 14 } : Room) #[(.int i), (.int len)] h0 (fun v h L => v = none ∧ L = [] ∧ h = h0) := by
  refine own_Con_of pn_34 ?_
  intro p e s m below meth c s₁ X0 hx hby hml hret hlk hnm hown hZ e0
  have hown : s.vm.findClass "java/lang/String" = some m.cls := hown
  have hml : c.maxLocals = 2 := hml
  show own_WP _ _ _ _ _ _ _ (s₁.setTop (entryFrame m #[(.int i), (.int len)] 2))
  rw [ef_con_ciS1 m i len]
  refine own_iloadN (pc' := 1) X0 hx (hb hby d34_0) rfl rfl ?_
  refine own_iloadN (pc' := 2) X0 hx (hb hby d34_1) rfl rfl ?_
  refine own_getS (pc' := 5) X0 hx hZ hown (host := "") (Or.inl (own_w hw 219 rfl)) Via.refl e0 (hF.ext X00.x) (hb hby d34_2) rfl ?_
  intro T1 X1 e1
  refine own_callS (pc' := 8) (W := 0) (y := (⟨"jdk/internal/util/Preconditions", "checkIndex", "(IILjava/util/function/BiFunction;)I"⟩ : MethodName)) X1 hx hZ hown (own_w hw 221 rfl) (own_w hw 222 rfl) (own_w hw 220 rfl) (own_w hw 223 rfl) (by decide) (con_ciP1 l Z a0 hw i len fo _ n0 Z0 hi) e1 pd1 [(.int i), (.int len), (.ref fo)] [] rfl rfl rfl (Nat.le_of_eq rfl) (by decide) (by decide) (by rw [hml]; rfl) (hb hby d34_5) (by decide) (by decide) rfl ?_
  intro v2 T2 L2 X2 q2
  obtain ⟨r2, rfl, hr2, rfl, e2⟩ := q2
  show own_WP _ _ _ _ _ _ _ (T2.setTop (mkF m 8 #[.val (.int i), .val (.int len)] [(.int r2)]))
  refine own_pop (pc' := 9) X2 hx (hb hby d34_8) rfl rfl ?_
  refine own_ret0 X2 hx (fun _ _ _ _ q => q) hlk hret (hb hby d34_9) (by decide) (by decide) ?_
  exact ⟨rfl, rfl, e2⟩
theorem ef_con_ciP0 (m : MethodId) (i : Int32) (len : Int32) : entryFrame m #[(.int i), (.int len), .null] 3 = mkF m 0 #[.val (.int i), .val (.int len), .val .null] [] := by first | (simp [entryFrame, mkF, argsToLocals, Value.category]; done) | rfl
set_option maxRecDepth 65536 in
set_option maxHeartbeats 4000000 in
theorem con_ciP0 (l : Launch) (Z : State) (a0 : Array Value) (hw : ∀ d ∈ tables_1, d.before a0 Z = true) (i : Int32) (len : Int32) (h0 : Heap) (n0 : Nat) (Z0 : n0 ≤ h0.size) (hi : ¬ i < 0 ∧ i < len) :
    own_Con l Z (⟨"jdk/internal/util/Preconditions", "checkIndex", "(IILjava/util/function/BiFunction;)I"⟩ : MethodName) jdk_41_method_11_code 3 (some .int) ({ frames := 0, cells := 0, slots := 0, locals := 0 } : Room) #[(.int i), (.int len), .null] h0 (fun v h L => ∃ z : Int32, v = some (.int z) ∧ (z = i) ∧ L = [] ∧ h = h0) := by
  refine own_Con_of pn_35 ?_
  intro p e s m below meth c s₁ X0 hx hby hml hret hlk hnm hown hZ e0
  have hown : s.vm.findClass "jdk/internal/util/Preconditions" = some m.cls := hown
  have hml : c.maxLocals = 3 := hml
  show own_WP _ _ _ _ _ _ _ (s₁.setTop (entryFrame m #[(.int i), (.int len), .null] 3))
  rw [ef_con_ciP0 m i len]
  refine own_iloadN (pc' := 1) X0 hx (hb hby d35_0) rfl rfl ?_
  refine own_if_lt (pt := 9) (pf := 4) X0 hx (hb hby d35_1) rfl (by decide) rfl (fun hc1 => absurd hc1 (hi.1)) (fun hc1 => ?_)
  refine own_iloadN (pc' := 5) X0 hx (hb hby d35_4) rfl rfl ?_
  refine own_iloadN (pc' := 6) X0 hx (hb hby d35_5) rfl rfl ?_
  refine own_icmp_lt (pt := 16) (pf := 9) X0 hx (hb hby d35_6) rfl (by decide) rfl (fun hc6 => ?_) (fun hc6 => absurd (hi.2) hc6)
  refine own_iloadN (pc' := 17) X0 hx (hb hby d35_16) rfl rfl ?_
  refine own_retI X0 hx (fun _ _ _ _ q => q) hlk hret (hb hby d35_17) (by decide) (by decide) ?_
  exact ⟨i, rfl, rfl, rfl, e0⟩
theorem ef_con_ciS0 (m : MethodId) (i : Int32) (len : Int32) : entryFrame m #[(.int i), (.int len)] 2 = mkF m 0 #[.val (.int i), .val (.int len)] [] := by first | (simp [entryFrame, mkF, argsToLocals, Value.category]; done) | rfl
set_option maxRecDepth 65536 in
set_option maxHeartbeats 4000000 in
theorem con_ciS0 (l : Launch) (Z : State) (a0 : Array Value) (hw : ∀ d ∈ tables_1, d.before a0 Z = true) (i : Int32) (len : Int32) (h0 : Heap) (n0 : Nat) (Z0 : n0 ≤ h0.size)  (hF : Sta Z Z.heap "jdk/internal/util/Preconditions" "SIOOBE_FORMATTER" "Ljava/util/function/BiFunction;" .null) (X00 : own_Old Z n0 h0) (hi : ¬ i < 0 ∧ i < len) :
    own_Con l Z (⟨"java/lang/String", "checkIndex", "(II)V"⟩ : MethodName) jdk_42_method_155_code 2 none ({ frames := 1, cells := 0, slots := 0, locals := 14 } : Room) #[(.int i), (.int len)] h0 (fun v h L => v = none ∧ L = [] ∧ h = h0) := by
  refine own_Con_of pn_34 ?_
  intro p e s m below meth c s₁ X0 hx hby hml hret hlk hnm hown hZ e0
  have hown : s.vm.findClass "java/lang/String" = some m.cls := hown
  have hml : c.maxLocals = 2 := hml
  show own_WP _ _ _ _ _ _ _ (s₁.setTop (entryFrame m #[(.int i), (.int len)] 2))
  rw [ef_con_ciS0 m i len]
  refine own_iloadN (pc' := 1) X0 hx (hb hby d34_0) rfl rfl ?_
  refine own_iloadN (pc' := 2) X0 hx (hb hby d34_1) rfl rfl ?_
  refine own_getS (pc' := 5) X0 hx hZ hown (host := "") (Or.inl (own_w hw 219 rfl)) Via.refl e0 (hF.ext X00.x) (hb hby d34_2) rfl ?_
  intro T1 X1 e1
  refine own_callS (pc' := 8) (W := 0) (y := (⟨"jdk/internal/util/Preconditions", "checkIndex", "(IILjava/util/function/BiFunction;)I"⟩ : MethodName)) X1 hx hZ hown (own_w hw 221 rfl) (own_w hw 222 rfl) (own_w hw 220 rfl) (own_w hw 223 rfl) (by decide) (con_ciP0 l Z a0 hw i len  _ n0 Z0 hi) e1 pd1 [(.int i), (.int len), .null] [] rfl rfl rfl (Nat.le_of_eq rfl) (by decide) (by decide) (by rw [hml]; rfl) (hb hby d34_5) (by decide) (by decide) rfl ?_
  intro v2 T2 L2 X2 q2
  obtain ⟨r2, rfl, hr2, rfl, e2⟩ := q2
  show own_WP _ _ _ _ _ _ _ (T2.setTop (mkF m 8 #[.val (.int i), .val (.int len)] [(.int r2)]))
  refine own_pop (pc' := 9) X2 hx (hb hby d34_8) rfl rfl ?_
  refine own_ret0 X2 hx (fun _ _ _ _ q => q) hlk hret (hb hby d34_9) (by decide) (by decide) ?_
  exact ⟨rfl, rfl, e2⟩
theorem con_ciS (l : Launch) (Z : State) (a0 : Array Value) (hw : ∀ d ∈ tables_1, d.before a0 Z = true) (i len : Int32) (h0 : Heap) (n0 : Nat) (Z0 : n0 ≤ h0.size) (G1 : Int32) (fm : Value) (hG : own_G Z G1 fm) (X00 : own_Old Z n0 h0) (hi : ¬ i < 0 ∧ i < len) : own_Con l Z (⟨"java/lang/String", "checkIndex", "(II)V"⟩ : MethodName) jdk_42_method_155_code 2 none ({ frames := 1, cells := 0, slots := 0, locals := 14 } : Room) #[.int i, .int len] h0 (fun v h L => v = none ∧ L = [] ∧ h = h0) := by
  obtain ⟨q1, q2, q3, q4⟩ := hG
  cases fm with
  | null => exact con_ciS0 l Z a0 hw i len h0 n0 Z0 q3 X00 hi
  | ref a => exact con_ciS1 l Z a0 hw i len h0 n0 Z0 a q3 X00 hi
  | _ => cases q4
theorem d33_0 : decode jdk_43_method_2_code 0 = .ok (.iload_n 1, 1) := by decide +kernel
theorem d33_1 : decode jdk_43_method_2_code 1 = .ok (.aload_n 0, 1) := by decide +kernel
theorem d33_2 : decode jdk_43_method_2_code 2 = .ok (.arraylength, 1) := by decide +kernel
theorem d33_3 : decode jdk_43_method_2_code 3 = .ok (.invokestatic 9, 3) := by decide +kernel
theorem d33_6 : decode jdk_43_method_2_code 6 = .ok (.aload_n 0, 1) := by decide +kernel
theorem d33_7 : decode jdk_43_method_2_code 7 = .ok (.iload_n 1, 1) := by decide +kernel
theorem d33_8 : decode jdk_43_method_2_code 8 = .ok (.baload, 1) := by decide +kernel
theorem d33_9 : decode jdk_43_method_2_code 9 = .ok (.sipush 255, 3) := by decide +kernel
theorem d33_12 : decode jdk_43_method_2_code 12 = .ok (.iand, 1) := by decide +kernel
theorem d33_13 : decode jdk_43_method_2_code 13 = .ok (.i2c, 1) := by decide +kernel
theorem d33_14 : decode jdk_43_method_2_code 14 = .ok (.ireturn, 1) := by decide +kernel
theorem pn_33 : plainFor (⟨"java/lang/StringLatin1", "charAt", "([BI)C"⟩ : MethodName) = true := plainFor_of_name (by first | (simp [plainName, overriddenIn]; done) | decide +kernel)
theorem ef_con_chL (m : MethodId) (b : Addr) (i : Int32) : entryFrame m #[(.ref b), (.int i)] 2 = mkF m 0 #[.val (.ref b), .val (.int i)] [] := by first | (simp [entryFrame, mkF, argsToLocals, Value.category]; done) | rfl
theorem pd2 : parseMethodDescriptor "(II)V" = some ⟨[.int, .int], none⟩ := by decide +kernel
set_option maxRecDepth 65536 in
set_option maxHeartbeats 4000000 in
theorem con_chL (l : Launch) (Z : State) (a0 : Array Value) (hw : ∀ d ∈ tables_1, d.before a0 Z = true) (b : Addr) (i : Int32) (h0 : Heap) (n0 : Nat) (Z0 : n0 ≤ h0.size) (G1 : Int32) (fm : Value) (hG : own_G Z G1 fm) (X00 : own_Old Z n0 h0) (kb : ClassId) (z1 : Int32) (vs : List Value) (hA : Arv Z h0 b kb .byte z1 vs (.int (0 : Int32))) (bv : Int32) (hi : ¬ i < 0 ∧ i < z1) (hb1 : vs.getD i.toNatClampNeg (.int (0 : Int32)) = .int bv) :
    own_Con l Z (⟨"java/lang/StringLatin1", "charAt", "([BI)C"⟩ : MethodName) jdk_43_method_2_code 2 (some .char) ({ frames := 2, cells := 0, slots := 0, locals := 27 } : Room) #[(.ref b), (.int i)] h0 (fun v h L => ∃ z : Int32, v = some (.int z) ∧ (z = own_ch bv) ∧ L = [] ∧ h = h0) := by
  refine own_Con_of pn_33 ?_
  intro p e s m below meth c s₁ X0 hx hby hml hret hlk hnm hown hZ e0
  have hown : s.vm.findClass "java/lang/StringLatin1" = some m.cls := hown
  have hml : c.maxLocals = 2 := hml
  show own_WP _ _ _ _ _ _ _ (s₁.setTop (entryFrame m #[(.ref b), (.int i)] 2))
  rw [ef_con_chL m b i]
  refine own_iloadN (pc' := 1) X0 hx (hb hby d33_0) rfl rfl ?_
  refine own_aloadN (pc' := 2) X0 hx (hb hby d33_1) rfl rfl rfl ?_
  refine own_arrlen (pc' := 3) X0 hx hZ e0 hA (hb hby d33_2) rfl ?_
  refine own_callS (pc' := 6) (W := 0) (y := (⟨"java/lang/String", "checkIndex", "(II)V"⟩ : MethodName)) X0 hx hZ hown (own_w hw 216 rfl) (own_w hw 217 rfl) (own_w hw 3 rfl) (own_w hw 218 rfl) (by decide) (con_ciS l Z a0 hw i z1 _ n0 Z0 G1 fm hG X00 hi) e0 pd2 [(.int i), (.int z1)] [] rfl rfl rfl (Nat.le_of_eq rfl) (by decide) (by decide) (by rw [hml]; rfl) (hb hby d33_3) (by decide) (by decide) rfl ?_
  intro v1 T1 L1 X1 q1
  obtain ⟨rfl, rfl, e1⟩ := q1
  show own_WP _ _ _ _ _ _ _ (T1.setTop (mkF m 6 #[.val (.ref b), .val (.int i)] []))
  refine own_aloadN (pc' := 7) X1 hx (hb hby d33_6) rfl rfl rfl ?_
  refine own_iloadN (pc' := 8) X1 hx (hb hby d33_7) rfl rfl ?_
  refine own_baload (pc' := 9) (v := (.int bv)) X1 hx hZ e1 hA hi hb1 (hb hby d33_8) rfl ?_
  refine own_sipush (pc' := 12) X1 hx (255 : Int32) (hb hby d33_9) rfl rfl ?_
  refine own_iand (pc' := 13) X1 hx (hb hby d33_12) rfl ?_
  refine own_i2c (pc' := 14) X1 hx (hb hby d33_13) rfl ?_
  refine own_retN X1 hx (fun _ _ _ _ q => q) hlk (t := .char) (by decide) hret (hb hby d33_14) (by decide) (by decide) ?_
  exact ⟨_, rfl, own_ch_c bv, rfl, e1⟩
theorem d31_0 : decode jdk_42_method_56_code 0 = .ok (.aload_n 0, 1) := by decide +kernel
theorem d31_1 : decode jdk_42_method_56_code 1 = .ok (.invokevirtual 492, 3) := by decide +kernel
theorem d31_4 : decode jdk_42_method_56_code 4 = .ok (.ifCond .eq 12, 3) := by decide +kernel
theorem d31_7 : decode jdk_42_method_56_code 7 = .ok (.aload_n 0, 1) := by decide +kernel
theorem d31_8 : decode jdk_42_method_56_code 8 = .ok (.getfield 9, 3) := by decide +kernel
theorem d31_11 : decode jdk_42_method_56_code 11 = .ok (.iload_n 1, 1) := by decide +kernel
theorem d31_12 : decode jdk_42_method_56_code 12 = .ok (.invokestatic 495, 3) := by decide +kernel
theorem d31_15 : decode jdk_42_method_56_code 15 = .ok (.ireturn, 1) := by decide +kernel
theorem pn_31 : plainFor (⟨"java/lang/String", "charAt", "(I)C"⟩ : MethodName) = true := plainFor_of_name (by first | (simp [plainName, overriddenIn]; done) | decide +kernel)
theorem ef_con_charAt (m : MethodId) (a : Addr) (i : Int32) : entryFrame m #[(.ref a), (.int i)] 2 = mkF m 0 #[.val (.ref a), .val (.int i)] [] := by first | (simp [entryFrame, mkF, argsToLocals, Value.category]; done) | rfl
theorem pd3 : parseMethodDescriptor "()Z" = some ⟨[], some .boolean⟩ := by decide +kernel
theorem pd4 : parseMethodDescriptor "([BI)C" = some ⟨[(.array .byte), .int], some .char⟩ := by decide +kernel
set_option maxRecDepth 65536 in
set_option maxHeartbeats 4000000 in
theorem con_charAt (l : Launch) (Z : State) (a0 : Array Value) (hw : ∀ d ∈ tables_1, d.before a0 Z = true) (a : Addr) (i : Int32) (h0 : Heap) (n0 : Nat) (Z0 : n0 ≤ h0.size) (G1 : Int32) (fm : Value) (hG : own_G Z G1 fm) (X00 : own_Old Z n0 h0) (b : Addr) (kb : ClassId) (z1 : Int32) (vs : List Value) (hE : Exa Z h0 a "java/lang/String") (hC : Fld Z h0 a "java/lang/String" "coder" "B" (.int (0 : Int32))) (hV : Fld Z h0 a "java/lang/String" "value" "[B" (.ref b)) (hA : Arv Z h0 b kb .byte z1 vs (.int (0 : Int32))) (bv : Int32) (hi : ¬ i < 0 ∧ i < z1) (hb1 : vs.getD i.toNatClampNeg (.int (0 : Int32)) = .int bv) :
    own_Con l Z (⟨"java/lang/String", "charAt", "(I)C"⟩ : MethodName) jdk_42_method_56_code 2 (some .char) ({ frames := 3, cells := 0, slots := 0, locals := 40 } : Room) #[(.ref a), (.int i)] h0 (fun v h L => ∃ z : Int32, v = some (.int z) ∧ (z = own_ch bv) ∧ L = [] ∧ h = h0) := by
  refine own_Con_of pn_31 ?_
  intro p e s m below meth c s₁ X0 hx hby hml hret hlk hnm hown hZ e0
  have hown : s.vm.findClass "java/lang/String" = some m.cls := hown
  have hml : c.maxLocals = 2 := hml
  show own_WP _ _ _ _ _ _ _ (s₁.setTop (entryFrame m #[(.ref a), (.int i)] 2))
  rw [ef_con_charAt m a i]
  refine own_aloadN (pc' := 1) X0 hx (hb hby d31_0) rfl rfl rfl ?_
  refine own_callV (pc' := 4) (W := 0) (y := (⟨"java/lang/String", "isLatin1", "()Z"⟩ : MethodName)) (z := (⟨"java/lang/String", "isLatin1", "()Z"⟩ : MethodName)) X0 hx hZ hown (own_w hw 207 rfl) (own_w hw 208 rfl) (notFace_of_selects (args := #[]) (mvT hZ (own_w hw 210 rfl))) (own_w hw 210 rfl) (own_w hw 209 rfl) (own_w hw 3 rfl) (own_w hw 211 rfl) (by decide) hE (con_isL1 l Z a0 hw a _ n0 Z0 G1 fm hG X00 hC) e0 pd3 [] [] rfl rfl rfl (Nat.le_of_eq rfl) (by decide) (by decide) (by rw [hml]; rfl) (hb hby d31_1) (by decide) (by decide) rfl ?_
  intro v1 T1 L1 X1 q1
  obtain ⟨r1, rfl, hr1, rfl, e1⟩ := q1
  show own_WP _ _ _ _ _ _ _ (T1.setTop (mkF m 4 #[.val (.ref a), .val (.int i)] [(.int r1)]))
  refine own_if_eq (pt := 16) (pf := 7) X1 hx (hb hby d31_4) rfl (by decide) rfl (fun hc4 => absurd hc4 (by rw [hr1]; decide)) (fun hc4 => ?_)
  refine own_aloadN (pc' := 8) X1 hx (hb hby d31_7) rfl rfl rfl ?_
  refine own_getF (pc' := 11) X1 hx hZ hown (host := "") (Or.inl (own_w hw 21 rfl)) Via.refl e1 hV (hb hby d31_8) rfl ?_
  intro T2 X2 e2
  refine own_iloadN (pc' := 12) X2 hx (hb hby d31_11) rfl rfl ?_
  refine own_callS (pc' := 15) (W := 0) (y := (⟨"java/lang/StringLatin1", "charAt", "([BI)C"⟩ : MethodName)) X2 hx hZ hown (own_w hw 212 rfl) (own_w hw 213 rfl) (own_w hw 214 rfl) (own_w hw 215 rfl) (by decide) (con_chL l Z a0 hw b i _ n0 Z0 G1 fm hG X00 kb z1 vs hA bv hi hb1) e2 pd4 [(.ref b), (.int i)] [] rfl rfl rfl (Nat.le_of_eq rfl) (by decide) (by decide) (by rw [hml]; rfl) (hb hby d31_12) (by decide) (by decide) rfl ?_
  intro v3 T3 L3 X3 q3
  obtain ⟨r3, rfl, hr3, rfl, e3⟩ := q3
  show own_WP _ _ _ _ _ _ _ (T3.setTop (mkF m 15 #[.val (.ref a), .val (.int i)] [(.int r3)]))
  refine own_retN X3 hx (fun _ _ _ _ q => q) hlk (t := .char) (by decide) hret (hb hby d31_15) (by decide) (by decide) ?_
  exact ⟨_, rfl, by rw [hr3]; exact own_ch_n bv, rfl, e3⟩
theorem d38_0 : decode jdk_43_method_3_code 0 = .ok (.iload_n 0, 1) := by decide +kernel
theorem d38_1 : decode jdk_43_method_3_code 1 = .ok (.sipush 255, 3) := by decide +kernel
theorem d38_4 : decode jdk_43_method_3_code 4 = .ok (.if_icmp .gt 7, 3) := by decide +kernel
theorem d38_7 : decode jdk_43_method_3_code 7 = .ok (.iconst 1, 1) := by decide +kernel
theorem d38_8 : decode jdk_43_method_3_code 8 = .ok (.goto 4, 3) := by decide +kernel
theorem d38_12 : decode jdk_43_method_3_code 12 = .ok (.ireturn, 1) := by decide +kernel
theorem pn_38 : plainFor (⟨"java/lang/StringLatin1", "canEncode", "(C)Z"⟩ : MethodName) = true := plainFor_of_name (by first | (simp [plainName, overriddenIn]; done) | decide +kernel)
theorem ef_con_can (m : MethodId) (c1 : Int32) : entryFrame m #[(.int c1)] 1 = mkF m 0 #[.val (.int c1)] [] := by first | (simp [entryFrame, mkF, argsToLocals, Value.category]; done) | rfl
set_option maxRecDepth 65536 in
set_option maxHeartbeats 4000000 in
theorem con_can (l : Launch) (Z : State) (a0 : Array Value) (hw : ∀ d ∈ tables_1, d.before a0 Z = true) (c1 : Int32) (h0 : Heap) (n0 : Nat) (Z0 : n0 ≤ h0.size) (hc : ¬ (255 : Int32) < c1) :
    own_Con l Z (⟨"java/lang/StringLatin1", "canEncode", "(C)Z"⟩ : MethodName) jdk_43_method_3_code 1 (some .boolean) ({ frames := 0, cells := 0, slots := 0, locals := 0 } : Room) #[(.int c1)] h0 (fun v h L => ∃ z : Int32, v = some (.int z) ∧ (z = 1) ∧ L = [] ∧ h = h0) := by
  refine own_Con_of pn_38 ?_
  intro p e s m below meth c s₁ X0 hx hby hml hret hlk hnm hown hZ e0
  have hown : s.vm.findClass "java/lang/StringLatin1" = some m.cls := hown
  have hml : c.maxLocals = 1 := hml
  show own_WP _ _ _ _ _ _ _ (s₁.setTop (entryFrame m #[(.int c1)] 1))
  rw [ef_con_can m c1]
  refine own_iloadN (pc' := 1) X0 hx (hb hby d38_0) rfl rfl ?_
  refine own_sipush (pc' := 4) X0 hx (255 : Int32) (hb hby d38_1) rfl rfl ?_
  refine own_icmp_gt (pt := 11) (pf := 7) X0 hx (hb hby d38_4) rfl (by decide) rfl (fun hc4 => absurd hc4 (hc)) (fun hc4 => ?_)
  refine own_iconst (pc' := 8) X0 hx (1 : Int32) (hb hby d38_7) rfl rfl ?_
  refine own_goto (pc' := 12) X0 hx (hb hby d38_8) (by decide) rfl ?_
  refine own_retN X0 hx (fun _ _ _ _ q => q) hlk (t := .boolean) (by decide) hret (hb hby d38_12) (by decide) (by decide) ?_
  exact ⟨(1 : Int32), rfl, rfl, rfl, e0⟩
theorem d39_0 : decode jdk_43_method_46_code 0 = .ok (.iconst 1, 1) := by decide +kernel
theorem d39_1 : decode jdk_43_method_46_code 1 = .ok (.newarray .byte, 2) := by decide +kernel
theorem d39_3 : decode jdk_43_method_46_code 3 = .ok (.dup, 1) := by decide +kernel
theorem d39_4 : decode jdk_43_method_46_code 4 = .ok (.iconst 0, 1) := by decide +kernel
theorem d39_5 : decode jdk_43_method_46_code 5 = .ok (.iload_n 0, 1) := by decide +kernel
theorem d39_6 : decode jdk_43_method_46_code 6 = .ok (.i2b, 1) := by decide +kernel
theorem d39_7 : decode jdk_43_method_46_code 7 = .ok (.bastore, 1) := by decide +kernel
theorem d39_8 : decode jdk_43_method_46_code 8 = .ok (.areturn, 1) := by decide +kernel
theorem pn_39 : plainFor (⟨"java/lang/StringLatin1", "toBytes", "(C)[B"⟩ : MethodName) = true := plainFor_of_name (by first | (simp [plainName, overriddenIn]; done) | decide +kernel)
theorem ef_con_tb (m : MethodId) (c1 : Int32) : entryFrame m #[(.int c1)] 1 = mkF m 0 #[.val (.int c1)] [] := by first | (simp [entryFrame, mkF, argsToLocals, Value.category]; done) | rfl
set_option maxRecDepth 65536 in
set_option maxHeartbeats 4000000 in
theorem con_tb (l : Launch) (Z : State) (a0 : Array Value) (hw : ∀ d ∈ tables_1, d.before a0 Z = true) (c1 : Int32) (h0 : Heap) (n0 : Nat) (Z0 : n0 ≤ h0.size) :
    own_Con l Z (⟨"java/lang/StringLatin1", "toBytes", "(C)[B"⟩ : MethodName) jdk_43_method_46_code 1 (some (.array .byte)) ({ frames := 0, cells := 1, slots := 1, locals := 0 } : Room) #[(.int c1)] h0 (fun v h L => ∃ (b : Addr) (kb : ClassId), v = some (.ref b) ∧ Fr n0 L ∧ Keep h0 h [] ∧ h0.size ≤ b ∧ Arv Z h b kb .byte (1 : Int32) [.int (own_by c1)] (.int (0 : Int32))) := by
  refine own_Con_of pn_39 ?_
  intro p e s m below meth c s₁ X0 hx hby hml hret hlk hnm hown hZ e0
  have hown : s.vm.findClass "java/lang/StringLatin1" = some m.cls := hown
  have hml : c.maxLocals = 1 := hml
  have N0 := Fr.nil n0
  show own_WP _ _ _ _ _ _ _ (s₁.setTop (entryFrame m #[(.int c1)] 1))
  rw [ef_con_tb m c1]
  refine own_iconst (pc' := 1) X0 hx (1 : Int32) (hb hby d39_0) rfl rfl ?_
  refine own_newP (pc' := 3) (cap := 1) X0 hx hZ (own_w hw 16 rfl) e0 (hb hby d39_1) (by decide) (by decide) (by decide) (by decide) (by decide) rfl ?_
  intro T1 h1 k1 b1 g1 X1 e1 E1 A1
  have g_b1 : n0 ≤ b1 := Nat.le_trans Z0 (Nat.le_of_eq g1.symm)
  have sz_b1 : h0.size ≤ b1 := Nat.le_trans (Keep.refl h0 []).1 (Nat.le_of_eq g1.symm)
  have K1 : Keep h0 h1 [] := (Keep.refl h0 []).ext E1
  have V1 : Arv Z h1 b1 k1 .byte (1 : Int32) [(.int (0 : Int32))] (.int (0 : Int32)) := (Arv.new A1 (by decide)).pad (pad_rep [] (.int (0 : Int32)) 1)
  refine own_dup (pc' := 4) X1 hx (hb hby d39_3) rfl rfl ?_
  refine own_iconst (pc' := 5) X1 hx (0 : Int32) (hb hby d39_4) rfl rfl ?_
  refine own_iloadN (pc' := 6) X1 hx (hb hby d39_5) rfl rfl ?_
  refine own_i2b (pc' := 7) X1 hx (hb hby d39_6) rfl ?_
  obtain ⟨v3, hv3⟩ : ∃ z : Int32, z = (c1.toInt8.toInt32) := ⟨_, rfl⟩
  rw [← hv3]
  refine own_bastore (pc' := 8) X1 hx hZ e1 V1 ⟨by decide, by decide⟩ 0 rfl (Nat.le_of_ble_eq_true rfl) (hb hby d39_7) rfl ?_
  intro T2 h2 X2 e2 W2 V2
  have V2 : Arv Z h2 b1 k1 .byte (1 : Int32) [(.int (nar .byte v3))] (.int (0 : Int32)) := V2
  have N2 := Fr.snoc X2 N0 g_b1
  have K2 : Keep h0 h2 [] := K1.wr W2 (Or.inr sz_b1)
  rw [(own_isbE hv3)] at V2
  refine own_retA X2 hx (fun _ _ _ _ q => q) hlk rfl hret rfl rfl (hb hby d39_8) (by decide) (by decide) ?_
  rw [e2]
  refine ⟨b1, k1, rfl, N2, K2, sz_b1, ?_⟩
  have q := V2
  rw [hv3] at q
  exact q
theorem d40_0 : decode jdk_42_method_151_code 0 = .ok (.aload_n 0, 1) := by decide +kernel
theorem d40_1 : decode jdk_42_method_151_code 1 = .ok (.invokespecial 1, 3) := by decide +kernel
theorem d40_4 : decode jdk_42_method_151_code 4 = .ok (.aload_n 0, 1) := by decide +kernel
theorem d40_5 : decode jdk_42_method_151_code 5 = .ok (.aload_n 1, 1) := by decide +kernel
theorem d40_6 : decode jdk_42_method_151_code 6 = .ok (.putfield 9, 3) := by decide +kernel
theorem d40_9 : decode jdk_42_method_151_code 9 = .ok (.aload_n 0, 1) := by decide +kernel
theorem d40_10 : decode jdk_42_method_151_code 10 = .ok (.iload_n 2, 1) := by decide +kernel
theorem d40_11 : decode jdk_42_method_151_code 11 = .ok (.putfield 15, 3) := by decide +kernel
theorem d40_14 : decode jdk_42_method_151_code 14 = .ok (.return_, 1) := by decide +kernel
theorem pn_40 : plainFor (⟨"java/lang/String", "<init>", "([BB)V"⟩ : MethodName) = true := plainFor_of_name (by first | (simp [plainName, overriddenIn]; done) | decide +kernel)
theorem ef_con_bb (m : MethodId) (a : Addr) (b : Addr) : entryFrame m #[(.ref a), (.ref b), (.int (0 : Int32))] 3 = mkF m 0 #[.val (.ref a), .val (.ref b), .val (.int (0 : Int32))] [] := by first | (simp [entryFrame, mkF, argsToLocals, Value.category]; done) | rfl
set_option maxRecDepth 65536 in
set_option maxHeartbeats 4000000 in
theorem con_bb (l : Launch) (Z : State) (a0 : Array Value) (hw : ∀ d ∈ tables_1, d.before a0 Z = true) (a : Addr) (b : Addr) (h0 : Heap) (n0 : Nat) (Z0 : n0 ≤ h0.size) (v0 : Value) (c0 : Value) (hE : Exa Z h0 a "java/lang/String") (hC : Fld Z h0 a "java/lang/String" "coder" "B" c0) (hV : Fld Z h0 a "java/lang/String" "value" "[B" v0) (g_a : n0 ≤ a) :
    own_Con l Z (⟨"java/lang/String", "<init>", "([BB)V"⟩ : MethodName) jdk_42_method_151_code 3 none ({ frames := 1, cells := 0, slots := 0, locals := 12 } : Room) #[(.ref a), (.ref b), (.int (0 : Int32))] h0 (fun v h L => v = none ∧ Fr n0 L ∧ Keep h0 h [a] ∧ Exa Z h a "java/lang/String" ∧ Fld Z h a "java/lang/String" "coder" "B" (.int (0 : Int32)) ∧ Fld Z h a "java/lang/String" "value" "[B" (.ref b)) := by
  refine own_Con_of pn_40 ?_
  intro p e s m below meth c s₁ X0 hx hby hml hret hlk hnm hown hZ e0
  have hown : s.vm.findClass "java/lang/String" = some m.cls := hown
  have hml : c.maxLocals = 3 := hml
  have N0 := Fr.nil n0
  show own_WP _ _ _ _ _ _ _ (s₁.setTop (entryFrame m #[(.ref a), (.ref b), (.int (0 : Int32))] 3))
  rw [ef_con_bb m a b]
  refine own_aloadN (pc' := 1) X0 hx (hb hby d40_0) rfl rfl rfl ?_
  refine own_initO (pc' := 4) (W := 0) X0 hx hZ hown (own_w hw 12 rfl) (own_w hw 13 rfl) (own_w hw 14 rfl) e0 (by rw [hml]; rfl) (hb hby d40_1) (by decide) (Nat.le_of_eq rfl) (by decide) rfl ?_
  intro T1 X1 e1
  refine own_aloadN (pc' := 5) X1 hx (hb hby d40_4) rfl rfl rfl ?_
  refine own_aloadN (pc' := 6) X1 hx (hb hby d40_5) rfl rfl rfl ?_
  refine own_putF (pc' := 9) X1 hx hZ hown (host := "") (Or.inl (own_w hw 21 rfl)) Via.refl e1 hV hE (Or.inr ⟨(own_w hw 17 rfl), rfl, hnm⟩) (own_w hw 2 rfl) (ty := (.array .byte)) (by decide +kernel) rfl rfl (hb hby d40_6) rfl ?_
  intro T2 h2 X2 e2 W2
  have Fw2 := hV.same W2
  have N2 := Fr.snoc X2 N0 g_a
  have K2 : Keep h0 h2 [a] := (Keep.refl h0 [a]).wr W2 (Or.inl (List.mem_of_getElem? (i := 0) rfl))
  refine own_aloadN (pc' := 10) X2 hx (hb hby d40_9) rfl rfl rfl ?_
  refine own_iloadN (pc' := 11) X2 hx (hb hby d40_10) rfl rfl ?_
  have f3 := (hC.other W2 (Or.inr (slot_ne (Or.inr (own_w hw 18 rfl)) (Or.inr (own_w hw 17 rfl)) (by decide) (t := .byte) (t' := (.array .byte)) (by decide +kernel) (by decide +kernel))))
  have f4 := (hE.wr W2)
  refine own_putF (pc' := 14) X2 hx hZ hown (host := "") (Or.inl (own_w hw 22 rfl)) Via.refl e2 f3 f4 (Or.inr ⟨(own_w hw 18 rfl), rfl, hnm⟩) (own_w hw 2 rfl) (ty := .byte) (by decide) rfl rfl (hb hby d40_11) rfl ?_
  intro T5 h5 X5 e5 W5
  have Fw5 := f3.same W5
  have N5 := Fr.snoc X5 N2 g_a
  have K5 : Keep h0 h5 [a] := K2.wr W5 (Or.inl (List.mem_of_getElem? (i := 0) rfl))
  have f6 := (f4.wr W5)
  have f7 := (Fw2.other W5 (Or.inr (slot_ne (Or.inr (own_w hw 17 rfl)) (Or.inr (own_w hw 18 rfl)) (by decide) (t := (.array .byte)) (t' := .byte) (by decide +kernel) (by decide +kernel))))
  refine own_ret0 X5 hx (fun _ _ _ _ q => q) hlk hret (hb hby d40_14) (by decide) (by decide) ?_
  rw [e5]
  exact ⟨rfl, N5, K5, f6, Fw5, f7⟩
theorem d37_0 : decode jdk_42_method_139_code 0 = .ok (.getstatic 38, 3) := by decide +kernel
theorem d37_3 : decode jdk_42_method_139_code 3 = .ok (.ifCond .eq 23, 3) := by decide +kernel
theorem d37_6 : decode jdk_42_method_139_code 6 = .ok (.iload_n 0, 1) := by decide +kernel
theorem d37_7 : decode jdk_42_method_139_code 7 = .ok (.invokestatic 1015, 3) := by decide +kernel
theorem d37_10 : decode jdk_42_method_139_code 10 = .ok (.ifCond .eq 16, 3) := by decide +kernel
theorem d37_13 : decode jdk_42_method_139_code 13 = .ok (.new 10, 3) := by decide +kernel
theorem d37_16 : decode jdk_42_method_139_code 16 = .ok (.dup, 1) := by decide +kernel
theorem d37_17 : decode jdk_42_method_139_code 17 = .ok (.iload_n 0, 1) := by decide +kernel
theorem d37_18 : decode jdk_42_method_139_code 18 = .ok (.invokestatic 1018, 3) := by decide +kernel
theorem d37_21 : decode jdk_42_method_139_code 21 = .ok (.iconst 0, 1) := by decide +kernel
theorem d37_22 : decode jdk_42_method_139_code 22 = .ok (.invokespecial 209, 3) := by decide +kernel
theorem d37_25 : decode jdk_42_method_139_code 25 = .ok (.areturn, 1) := by decide +kernel
theorem pn_37 : plainFor (⟨"java/lang/String", "valueOf", "(C)Ljava/lang/String;"⟩ : MethodName) = true := plainFor_of_name (by first | (simp [plainName, overriddenIn]; done) | decide +kernel)
theorem ef_con_vo (m : MethodId) (c1 : Int32) : entryFrame m #[(.int c1)] 1 = mkF m 0 #[.val (.int c1)] [] := by first | (simp [entryFrame, mkF, argsToLocals, Value.category]; done) | rfl
theorem pd5 : parseMethodDescriptor "(C)Z" = some ⟨[.char], some .boolean⟩ := by decide +kernel
theorem pd6 : parseMethodDescriptor "(C)[B" = some ⟨[.char], some (.array .byte)⟩ := by decide +kernel
theorem pd7 : parseMethodDescriptor "([BB)V" = some ⟨[(.array .byte), .byte], none⟩ := by decide +kernel
set_option maxRecDepth 65536 in
set_option maxHeartbeats 4000000 in
theorem con_vo (l : Launch) (Z : State) (a0 : Array Value) (hw : ∀ d ∈ tables_1, d.before a0 Z = true) (c1 : Int32) (h0 : Heap) (n0 : Nat) (Z0 : n0 ≤ h0.size) (G1 : Int32) (fm : Value) (hG : own_G Z G1 fm) (X00 : own_Old Z n0 h0) (hc : ¬ (255 : Int32) < c1) :
    own_Con l Z (⟨"java/lang/String", "valueOf", "(C)Ljava/lang/String;"⟩ : MethodName) jdk_42_method_139_code 1 (some (.object "java/lang/String")) ({ frames := 2, cells := 2, slots := 5, locals := 29 } : Room) #[(.int c1)] h0 (fun v h L => ∃ (a b : Addr) (kb : ClassId), v = some (.ref a) ∧ Fr n0 L ∧ Keep h0 h [] ∧ h0.size ≤ a ∧ h0.size ≤ b ∧ Exa Z h a "java/lang/String" ∧ Fld Z h a "java/lang/String" "coder" "B" (.int (0 : Int32)) ∧ Fld Z h a "java/lang/String" "value" "[B" (.ref b) ∧ Arv Z h b kb .byte (1 : Int32) [.int (own_by c1)] (.int (0 : Int32))) := by
  refine own_Con_of pn_37 ?_
  intro p e s m below meth c s₁ X0 hx hby hml hret hlk hnm hown hZ e0
  have hown : s.vm.findClass "java/lang/String" = some m.cls := hown
  have hml : c.maxLocals = 1 := hml
  have N0 := Fr.nil n0
  show own_WP _ _ _ _ _ _ _ (s₁.setTop (entryFrame m #[(.int c1)] 1))
  rw [ef_con_vo m c1]
  refine own_getS (pc' := 3) X0 hx hZ hown (host := "") (Or.inl (own_w hw 83 rfl)) Via.refl e0 (hG.1.ext X00.x) (hb hby d37_0) rfl ?_
  intro T1 X1 e1
  refine own_if_eq (pt := 26) (pf := 6) X1 hx (hb hby d37_3) rfl (by decide) rfl (fun hc3 => absurd hc3 (hG.2.1)) (fun hc3 => ?_)
  refine own_iloadN (pc' := 7) X1 hx (hb hby d37_6) rfl rfl ?_
  refine own_callS (pc' := 10) (W := 0) (y := (⟨"java/lang/StringLatin1", "canEncode", "(C)Z"⟩ : MethodName)) X1 hx hZ hown (own_w hw 248 rfl) (own_w hw 249 rfl) (own_w hw 214 rfl) (own_w hw 250 rfl) (by decide) (con_can l Z a0 hw c1 _ n0 Z0 hc) e1 pd5 [(.int c1)] [] rfl rfl rfl (Nat.le_of_eq rfl) (by decide) (by decide) (by rw [hml]; rfl) (hb hby d37_7) (by decide) (by decide) rfl ?_
  intro v2 T2 L2 X2 q2
  obtain ⟨r2, rfl, hr2, rfl, e2⟩ := q2
  have M2 := Fr.nil n0
  have N2 := Fr.app N0 M2
  show own_WP _ _ _ _ _ _ _ (T2.setTop (mkF m 10 #[.val (.int c1)] [(.int r2)]))
  refine own_if_eq (pt := 26) (pf := 13) X2 hx (hb hby d37_10) rfl (by decide) rfl (fun hc10 => absurd hc10 (by rw [hr2]; decide)) (fun hc10 => ?_)
  refine own_new (pc' := 16) X2 hx hZ hown (own_w hw 251 rfl) (own_w hw 2 rfl) (own_w hw 3 rfl) e2 (hb hby d37_13) (by decide) (by decide) rfl ?_
  intro T3 h3 b3 g3 X3 e3 E3 A3 D3
  have g_b3 : n0 ≤ b3 := Nat.le_trans Z0 (Nat.le_of_eq g3.symm)
  have sz_b3 : h0.size ≤ b3 := Nat.le_trans (Keep.refl h0 []).1 (Nat.le_of_eq g3.symm)
  have z3 : n0 ≤ h3.size := Nat.le_trans Z0 E3.1
  have K3 : Keep h0 h3 [] := (Keep.refl h0 []).ext E3
  have F3_value : Fld Z h3 b3 "java/lang/String" "value" "[B" .null := D3 (Or.inr (own_w hw 17 rfl)) (ty := (.array .byte)) (by decide +kernel)
  have F3_coder : Fld Z h3 b3 "java/lang/String" "coder" "B" (.int (0 : Int32)) := D3 (Or.inr (own_w hw 18 rfl)) (ty := .byte) (by decide)
  refine own_dup (pc' := 17) X3 hx (hb hby d37_16) rfl rfl ?_
  refine own_iloadN (pc' := 18) X3 hx (hb hby d37_17) rfl rfl ?_
  refine own_callS (pc' := 21) (W := 2) (y := (⟨"java/lang/StringLatin1", "toBytes", "(C)[B"⟩ : MethodName)) X3 hx hZ hown (own_w hw 252 rfl) (own_w hw 253 rfl) (own_w hw 214 rfl) (own_w hw 254 rfl) (by decide) (con_tb l Z a0 hw c1 _ n0 z3) e3 pd6 [(.int c1)] [(.ref b3), (.ref b3)] rfl rfl rfl (Nat.le_of_eq rfl) (by decide) (by decide) (by rw [hml]; rfl) (hb hby d37_18) (by decide) (by decide) rfl ?_
  intro v4 T4 L4 X4 q4
  obtain ⟨c4, k4, rfl, M4, K4, s4, V4⟩ := q4
  have ne_b3_c4 : b3 ≠ c4 := Nat.ne_of_lt (Nat.lt_of_lt_of_le A3.lt s4)
  have ne_c4_b3 := ne_b3_c4.symm
  have sz_c4 : h0.size ≤ c4 := Nat.le_trans K3.1 s4
  obtain ⟨h4, e4⟩ : ∃ z, z = T4.heap := ⟨_, rfl⟩
  rw [← e4] at K4 V4
  have e4 := e4.symm
  have z4 : n0 ≤ h4.size := Nat.le_trans z3 K4.1
  have KK4 : Keep h0 h4 [] := K3.trans K4 all0
  have N4 := Fr.app N2 M4
  show own_WP _ _ _ _ _ _ _ (T4.setTop (mkF m 21 #[.val (.int c1)] [(.ref c4), (.ref b3), (.ref b3)]))
  refine own_iconst (pc' := 22) X4 hx (0 : Int32) (hb hby d37_21) rfl rfl ?_
  have f6 := (A3.keep K4)
  have f7 := (F3_coder.keep K4 nin0)
  have f8 := (F3_value.keep K4 nin0)
  refine own_callN (pc' := 25) (W := 1) (y := (⟨"java/lang/String", "<init>", "([BB)V"⟩ : MethodName)) X4 hx hZ rfl hown (own_w hw 255 rfl) (own_w hw 256 rfl) (own_w hw 3 rfl) (own_w hw 257 rfl) (by decide) (con_bb l Z a0 hw b3 c4 _ n0 z4 _ _ f6 f7 f8 g_b3) e4 pd7 b3 [(.ref c4), (.int (0 : Int32))] [(.ref b3)] rfl rfl rfl (Nat.le_of_eq rfl) (by decide) (by decide) (by rw [hml]; rfl) (hb hby d37_22) (by decide) (by decide) rfl ?_
  intro v5 T5 L5 X5 q5
  obtain ⟨rfl, M5, K5, E5q, F5a, F5b⟩ := q5
  obtain ⟨h5, e5⟩ : ∃ z, z = T5.heap := ⟨_, rfl⟩
  rw [← e5] at K5 E5q F5a F5b
  have e5 := e5.symm
  have KK5 : Keep h0 h5 [] := KK4.trans K5 (allS (P := fun x => x ∈ [] ∨ h0.size ≤ x) (Or.inr sz_b3) all0)
  have N5 := Fr.app N4 M5
  show own_WP _ _ _ _ _ _ _ (T5.setTop (mkF m 25 #[.val (.int c1)] [(.ref b3)]))
  have f9 := (V4.keep K5 (ninS ne_c4_b3 nin0))
  refine own_retA X5 hx (fun _ _ _ _ q => q) hlk rfl hret rfl rfl (hb hby d37_25) (by decide) (by decide) ?_
  rw [e5]
  exact ⟨b3, c4, k4, rfl, N5, KK5, sz_b3, sz_c4, E5q, F5a, F5b, f9⟩
theorem d50_0 : decode jdk_52_method_15_code 0 = .ok (.iload_n 1, 1) := by decide +kernel
theorem d50_1 : decode jdk_52_method_15_code 1 = .ok (.aload_n 0, 1) := by decide +kernel
theorem d50_2 : decode jdk_52_method_15_code 2 = .ok (.arraylength, 1) := by decide +kernel
theorem d50_3 : decode jdk_52_method_15_code 3 = .ok (.isub, 1) := by decide +kernel
theorem d50_4 : decode jdk_52_method_15_code 4 = .ok (.bipush 31, 2) := by decide +kernel
theorem d50_6 : decode jdk_52_method_15_code 6 = .ok (.iushr, 1) := by decide +kernel
theorem d50_7 : decode jdk_52_method_15_code 7 = .ok (.i2b, 1) := by decide +kernel
theorem d50_8 : decode jdk_52_method_15_code 8 = .ok (.ireturn, 1) := by decide +kernel
theorem pn_50 : plainFor (⟨"java/lang/StringUTF16", "coderFromArrayLen", "([BI)B"⟩ : MethodName) = true := plainFor_of_name (by first | (simp [plainName, overriddenIn]; done) | decide +kernel)
theorem ef_con_cfl (m : MethodId) (b : Addr) (z1 : Int32) : entryFrame m #[(.ref b), (.int z1)] 2 = mkF m 0 #[.val (.ref b), .val (.int z1)] [] := by first | (simp [entryFrame, mkF, argsToLocals, Value.category]; done) | rfl
set_option maxRecDepth 65536 in
set_option maxHeartbeats 4000000 in
theorem con_cfl (l : Launch) (Z : State) (a0 : Array Value) (hw : ∀ d ∈ tables_1, d.before a0 Z = true) (b : Addr) (z1 : Int32) (h0 : Heap) (n0 : Nat) (Z0 : n0 ≤ h0.size) (kb : ClassId) (vs : List Value) (hA : Arv Z h0 b kb .byte z1 vs (.int (0 : Int32))) :
    own_Con l Z (⟨"java/lang/StringUTF16", "coderFromArrayLen", "([BI)B"⟩ : MethodName) jdk_52_method_15_code 2 (some .byte) ({ frames := 0, cells := 0, slots := 0, locals := 0 } : Room) #[(.ref b), (.int z1)] h0 (fun v h L => ∃ z : Int32, v = some (.int z) ∧ (z = 0) ∧ L = [] ∧ h = h0) := by
  refine own_Con_of pn_50 ?_
  intro p e s m below meth c s₁ X0 hx hby hml hret hlk hnm hown hZ e0
  have hown : s.vm.findClass "java/lang/StringUTF16" = some m.cls := hown
  have hml : c.maxLocals = 2 := hml
  show own_WP _ _ _ _ _ _ _ (s₁.setTop (entryFrame m #[(.ref b), (.int z1)] 2))
  rw [ef_con_cfl m b z1]
  refine own_iloadN (pc' := 1) X0 hx (hb hby d50_0) rfl rfl ?_
  refine own_aloadN (pc' := 2) X0 hx (hb hby d50_1) rfl rfl rfl ?_
  refine own_arrlen (pc' := 3) X0 hx hZ e0 hA (hb hby d50_2) rfl ?_
  refine own_isub (pc' := 4) X0 hx (hb hby d50_3) rfl ?_
  refine own_bipush (pc' := 6) X0 hx (31 : Int32) (hb hby d50_4) rfl rfl ?_
  refine own_iushr (pc' := 7) X0 hx (hb hby d50_6) rfl ?_
  refine own_i2b (pc' := 8) X0 hx (hb hby d50_7) rfl ?_
  refine own_retN X0 hx (fun _ _ _ _ q => q) hlk (t := .byte) (by decide) hret (hb hby d50_8) (by decide) (by decide) ?_
  exact ⟨_, rfl, by rw [Int32.sub_self]; rfl, rfl, e0⟩
theorem d49_0 : decode jdk_52_method_21_code 0 = .ok (.iconst 0, 1) := by decide +kernel
theorem d49_1 : decode jdk_52_method_21_code 1 = .ok (.istore 5, 2) := by decide +kernel
theorem d49_3 : decode jdk_52_method_21_code 3 = .ok (.iload 5, 2) := by decide +kernel
theorem d49_5 : decode jdk_52_method_21_code 5 = .ok (.iload 4, 2) := by decide +kernel
theorem d49_7 : decode jdk_52_method_21_code 7 = .ok (.if_icmp .ge 37, 3) := by decide +kernel
theorem d49_10 : decode jdk_52_method_21_code 10 = .ok (.aload_n 0, 1) := by decide +kernel
theorem d49_11 : decode jdk_52_method_21_code 11 = .ok (.iload_n 1, 1) := by decide +kernel
theorem d49_12 : decode jdk_52_method_21_code 12 = .ok (.caload, 1) := by decide +kernel
theorem d49_13 : decode jdk_52_method_21_code 13 = .ok (.istore 6, 2) := by decide +kernel
theorem d49_15 : decode jdk_52_method_21_code 15 = .ok (.iload 6, 2) := by decide +kernel
theorem d49_17 : decode jdk_52_method_21_code 17 = .ok (.sipush 255, 3) := by decide +kernel
theorem d49_20 : decode jdk_52_method_21_code 20 = .ok (.if_icmp .le 6, 3) := by decide +kernel
theorem d49_26 : decode jdk_52_method_21_code 26 = .ok (.aload_n 2, 1) := by decide +kernel
theorem d49_27 : decode jdk_52_method_21_code 27 = .ok (.iload_n 3, 1) := by decide +kernel
theorem d49_28 : decode jdk_52_method_21_code 28 = .ok (.iload 6, 2) := by decide +kernel
theorem d49_30 : decode jdk_52_method_21_code 30 = .ok (.i2b, 1) := by decide +kernel
theorem d49_31 : decode jdk_52_method_21_code 31 = .ok (.bastore, 1) := by decide +kernel
theorem d49_32 : decode jdk_52_method_21_code 32 = .ok (.iinc 1 1, 3) := by decide +kernel
theorem d49_35 : decode jdk_52_method_21_code 35 = .ok (.iinc 3 1, 3) := by decide +kernel
theorem d49_38 : decode jdk_52_method_21_code 38 = .ok (.iinc 5 1, 3) := by decide +kernel
theorem d49_41 : decode jdk_52_method_21_code 41 = .ok (.goto (-38), 3) := by decide +kernel
theorem d49_44 : decode jdk_52_method_21_code 44 = .ok (.iload 4, 2) := by decide +kernel
theorem d49_46 : decode jdk_52_method_21_code 46 = .ok (.ireturn, 1) := by decide +kernel
theorem pn_49 : plainFor (⟨"java/lang/StringUTF16", "compress", "([CI[BII)I"⟩ : MethodName) = true := plainFor_of_name (by first | (simp [plainName, overriddenIn]; done) | decide +kernel)
theorem ef_con_cm5 (m : MethodId) (cb : Addr) (bb : Addr) : entryFrame m #[(.ref cb), (.int (0 : Int32)), (.ref bb), (.int (0 : Int32)), (.int (2 : Int32))] 7 = mkF m 0 #[.val (.ref cb), .val (.int (0 : Int32)), .val (.ref bb), .val (.int (0 : Int32)), .val (.int (2 : Int32)), .unset, .unset] [] := by first | (simp [entryFrame, mkF, argsToLocals, Value.category]; done) | rfl
set_option maxRecDepth 65536 in
set_option maxHeartbeats 4000000 in
theorem con_cm5 (l : Launch) (Z : State) (a0 : Array Value) (hw : ∀ d ∈ tables_1, d.before a0 Z = true) (cb : Addr) (bb : Addr) (h0 : Heap) (n0 : Nat) (Z0 : n0 ≤ h0.size) (c1 c2 : Int32) (kc : ClassId) (hB : Arv Z h0 cb kc .char (2 : Int32) [.int c1, .int c2] (.int (0 : Int32))) (hc1 : ¬ (255 : Int32) < c1) (hc2 : ¬ (255 : Int32) < c2) (kb : ClassId) (hA : Arv Z h0 bb kb .byte (2 : Int32) [.int (0 : Int32), .int (0 : Int32)] (.int (0 : Int32))) (ne_cb_bb : cb ≠ bb) (g_bb : n0 ≤ bb) :
    own_Con l Z (⟨"java/lang/StringUTF16", "compress", "([CI[BII)I"⟩ : MethodName) jdk_52_method_21_code 7 (some .int) ({ frames := 0, cells := 0, slots := 0, locals := 0 } : Room) #[(.ref cb), (.int (0 : Int32)), (.ref bb), (.int (0 : Int32)), (.int (2 : Int32))] h0 (fun v h L => v = some (.int (2 : Int32)) ∧ Fr n0 L ∧ Keep h0 h [bb] ∧ Arv Z h bb kb .byte (2 : Int32) [.int (own_by c1), .int (own_by c2)] (.int (0 : Int32))) := by
  refine own_Con_of pn_49 ?_
  intro p e s m below meth c s₁ X0 hx hby hml hret hlk hnm hown hZ e0
  have hown : s.vm.findClass "java/lang/StringUTF16" = some m.cls := hown
  have hml : c.maxLocals = 7 := hml
  have N0 := Fr.nil n0
  show own_WP _ _ _ _ _ _ _ (s₁.setTop (entryFrame m #[(.ref cb), (.int (0 : Int32)), (.ref bb), (.int (0 : Int32)), (.int (2 : Int32))] 7))
  rw [ef_con_cm5 m cb bb]
  refine own_iconst (pc' := 1) X0 hx (0 : Int32) (hb hby d49_0) rfl rfl ?_
  refine own_istore (pc' := 3) (l' := #[.val (.ref cb), .val (.int (0 : Int32)), .val (.ref bb), .val (.int (0 : Int32)), .val (.int (2 : Int32)), .val (.int (0 : Int32)), .unset]) X0 hx (hb hby d49_1) rfl rfl rfl ?_
  refine own_iload (pc' := 5) X0 hx (hb hby d49_3) rfl rfl ?_
  refine own_iload (pc' := 7) X0 hx (hb hby d49_5) rfl rfl ?_
  refine own_icmp_ge (pt := 44) (pf := 10) X0 hx (hb hby d49_7) rfl (by decide) rfl (fun hc7 => absurd (by decide) hc7) (fun hc7 => ?_)
  refine own_aloadN (pc' := 11) X0 hx (hb hby d49_10) rfl rfl rfl ?_
  refine own_iloadN (pc' := 12) X0 hx (hb hby d49_11) rfl rfl ?_
  refine own_caload (pc' := 13) (v := (.int c1)) X0 hx hZ e0 hB ⟨by decide, by decide⟩ rfl (hb hby d49_12) rfl ?_
  refine own_istore (pc' := 15) (l' := #[.val (.ref cb), .val (.int (0 : Int32)), .val (.ref bb), .val (.int (0 : Int32)), .val (.int (2 : Int32)), .val (.int (0 : Int32)), .val (.int c1)]) X0 hx (hb hby d49_13) rfl rfl rfl ?_
  refine own_iload (pc' := 17) X0 hx (hb hby d49_15) rfl rfl ?_
  refine own_sipush (pc' := 20) X0 hx (255 : Int32) (hb hby d49_17) rfl rfl ?_
  refine own_icmp_le (pt := 26) (pf := 23) X0 hx (hb hby d49_20) rfl (by decide) rfl (fun hc20 => ?_) (fun hc20 => absurd hc20 (hc1))
  refine own_aloadN (pc' := 27) X0 hx (hb hby d49_26) rfl rfl rfl ?_
  refine own_iloadN (pc' := 28) X0 hx (hb hby d49_27) rfl rfl ?_
  refine own_iload (pc' := 30) X0 hx (hb hby d49_28) rfl rfl ?_
  refine own_i2b (pc' := 31) X0 hx (hb hby d49_30) rfl ?_
  obtain ⟨v2, hv2⟩ : ∃ z : Int32, z = (c1.toInt8.toInt32) := ⟨_, rfl⟩
  rw [← hv2]
  refine own_bastore (pc' := 32) X0 hx hZ e0 hA ⟨by decide, by decide⟩ 0 rfl (Nat.le_of_ble_eq_true rfl) (hb hby d49_31) rfl ?_
  intro T1 h1 X1 e1 W1 V1
  have V1 : Arv Z h1 bb kb .byte (2 : Int32) [(.int (nar .byte v2)), (.int (0 : Int32))] (.int (0 : Int32)) := V1
  have N1 := Fr.snoc X1 N0 g_bb
  have K1 : Keep h0 h1 [bb] := (Keep.refl h0 [bb]).wr W1 (Or.inl (List.mem_of_getElem? (i := 0) rfl))
  rw [(own_isbE hv2)] at V1
  refine own_iinc (pc' := 35) (l' := #[.val (.ref cb), .val (.int (1 : Int32)), .val (.ref bb), .val (.int (0 : Int32)), .val (.int (2 : Int32)), .val (.int (0 : Int32)), .val (.int c1)]) X1 hx (hb hby d49_32) rfl (by decide) rfl rfl ?_
  refine own_iinc (pc' := 38) (l' := #[.val (.ref cb), .val (.int (1 : Int32)), .val (.ref bb), .val (.int (1 : Int32)), .val (.int (2 : Int32)), .val (.int (0 : Int32)), .val (.int c1)]) X1 hx (hb hby d49_35) rfl (by decide) rfl rfl ?_
  refine own_iinc (pc' := 41) (l' := #[.val (.ref cb), .val (.int (1 : Int32)), .val (.ref bb), .val (.int (1 : Int32)), .val (.int (2 : Int32)), .val (.int (1 : Int32)), .val (.int c1)]) X1 hx (hb hby d49_38) rfl (by decide) rfl rfl ?_
  refine own_goto (pc' := 3) X1 hx (hb hby d49_41) (by decide) rfl ?_
  refine own_iload (pc' := 5) X1 hx (hb hby d49_3) rfl rfl ?_
  refine own_iload (pc' := 7) X1 hx (hb hby d49_5) rfl rfl ?_
  refine own_icmp_ge (pt := 44) (pf := 10) X1 hx (hb hby d49_7) rfl (by decide) rfl (fun hc7_1 => absurd (by decide) hc7_1) (fun hc7_1 => ?_)
  refine own_aloadN (pc' := 11) X1 hx (hb hby d49_10) rfl rfl rfl ?_
  refine own_iloadN (pc' := 12) X1 hx (hb hby d49_11) rfl rfl ?_
  have f3 := (hB.other W1 ne_cb_bb)
  refine own_caload (pc' := 13) (v := (.int c2)) X1 hx hZ e1 f3 ⟨by decide, by decide⟩ rfl (hb hby d49_12) rfl ?_
  refine own_istore (pc' := 15) (l' := #[.val (.ref cb), .val (.int (1 : Int32)), .val (.ref bb), .val (.int (1 : Int32)), .val (.int (2 : Int32)), .val (.int (1 : Int32)), .val (.int c2)]) X1 hx (hb hby d49_13) rfl rfl rfl ?_
  refine own_iload (pc' := 17) X1 hx (hb hby d49_15) rfl rfl ?_
  refine own_sipush (pc' := 20) X1 hx (255 : Int32) (hb hby d49_17) rfl rfl ?_
  refine own_icmp_le (pt := 26) (pf := 23) X1 hx (hb hby d49_20) rfl (by decide) rfl (fun hc20_1 => ?_) (fun hc20_1 => absurd hc20_1 (hc2))
  refine own_aloadN (pc' := 27) X1 hx (hb hby d49_26) rfl rfl rfl ?_
  refine own_iloadN (pc' := 28) X1 hx (hb hby d49_27) rfl rfl ?_
  refine own_iload (pc' := 30) X1 hx (hb hby d49_28) rfl rfl ?_
  refine own_i2b (pc' := 31) X1 hx (hb hby d49_30) rfl ?_
  obtain ⟨v5, hv5⟩ : ∃ z : Int32, z = (c2.toInt8.toInt32) := ⟨_, rfl⟩
  rw [← hv5]
  refine own_bastore (pc' := 32) X1 hx hZ e1 V1 ⟨by decide, by decide⟩ 1 rfl (Nat.le_of_ble_eq_true rfl) (hb hby d49_31) rfl ?_
  intro T4 h4 X4 e4 W4 V4
  have V4 : Arv Z h4 bb kb .byte (2 : Int32) [(.int v2), (.int (nar .byte v5))] (.int (0 : Int32)) := V4
  have N4 := Fr.snoc X4 N1 g_bb
  have K4 : Keep h0 h4 [bb] := K1.wr W4 (Or.inl (List.mem_of_getElem? (i := 0) rfl))
  rw [(own_isbE hv5)] at V4
  refine own_iinc (pc' := 35) (l' := #[.val (.ref cb), .val (.int (2 : Int32)), .val (.ref bb), .val (.int (1 : Int32)), .val (.int (2 : Int32)), .val (.int (1 : Int32)), .val (.int c2)]) X4 hx (hb hby d49_32) rfl (by decide) rfl rfl ?_
  refine own_iinc (pc' := 38) (l' := #[.val (.ref cb), .val (.int (2 : Int32)), .val (.ref bb), .val (.int (2 : Int32)), .val (.int (2 : Int32)), .val (.int (1 : Int32)), .val (.int c2)]) X4 hx (hb hby d49_35) rfl (by decide) rfl rfl ?_
  refine own_iinc (pc' := 41) (l' := #[.val (.ref cb), .val (.int (2 : Int32)), .val (.ref bb), .val (.int (2 : Int32)), .val (.int (2 : Int32)), .val (.int (2 : Int32)), .val (.int c2)]) X4 hx (hb hby d49_38) rfl (by decide) rfl rfl ?_
  refine own_goto (pc' := 3) X4 hx (hb hby d49_41) (by decide) rfl ?_
  refine own_iload (pc' := 5) X4 hx (hb hby d49_3) rfl rfl ?_
  refine own_iload (pc' := 7) X4 hx (hb hby d49_5) rfl rfl ?_
  refine own_icmp_ge (pt := 44) (pf := 10) X4 hx (hb hby d49_7) rfl (by decide) rfl (fun hc7_2 => ?_) (fun hc7_2 => absurd hc7_2 (by decide))
  refine own_iload (pc' := 46) X4 hx (hb hby d49_44) rfl rfl ?_
  refine own_retI X4 hx (fun _ _ _ _ q => q) hlk hret (hb hby d49_46) (by decide) (by decide) ?_
  rw [e4]
  refine ⟨rfl, N4, K4, ?_⟩
  have q := V4
  rw [hv2, hv5] at q
  exact q
theorem d48_0 : decode jdk_52_method_16_code 0 = .ok (.iload_n 2, 1) := by decide +kernel
theorem d48_1 : decode jdk_52_method_16_code 1 = .ok (.newarray .byte, 2) := by decide +kernel
theorem d48_3 : decode jdk_52_method_16_code 3 = .ok (.astore_n 3, 1) := by decide +kernel
theorem d48_4 : decode jdk_52_method_16_code 4 = .ok (.aload_n 0, 1) := by decide +kernel
theorem d48_5 : decode jdk_52_method_16_code 5 = .ok (.iload_n 1, 1) := by decide +kernel
theorem d48_6 : decode jdk_52_method_16_code 6 = .ok (.aload_n 3, 1) := by decide +kernel
theorem d48_7 : decode jdk_52_method_16_code 7 = .ok (.iconst 0, 1) := by decide +kernel
theorem d48_8 : decode jdk_52_method_16_code 8 = .ok (.iload_n 2, 1) := by decide +kernel
theorem d48_9 : decode jdk_52_method_16_code 9 = .ok (.invokestatic 115, 3) := by decide +kernel
theorem d48_12 : decode jdk_52_method_16_code 12 = .ok (.istore 4, 2) := by decide +kernel
theorem d48_14 : decode jdk_52_method_16_code 14 = .ok (.iload 4, 2) := by decide +kernel
theorem d48_16 : decode jdk_52_method_16_code 16 = .ok (.iload_n 2, 1) := by decide +kernel
theorem d48_17 : decode jdk_52_method_16_code 17 = .ok (.if_icmp .eq 40, 3) := by decide +kernel
theorem d48_57 : decode jdk_52_method_16_code 57 = .ok (.aload_n 3, 1) := by decide +kernel
theorem d48_58 : decode jdk_52_method_16_code 58 = .ok (.areturn, 1) := by decide +kernel
theorem pn_48 : plainFor (⟨"java/lang/StringUTF16", "compress", "([CII)[B"⟩ : MethodName) = true := plainFor_of_name (by first | (simp [plainName, overriddenIn]; done) | decide +kernel)
theorem ef_con_cm3 (m : MethodId) (cb : Addr) : entryFrame m #[(.ref cb), (.int (0 : Int32)), (.int (2 : Int32))] 6 = mkF m 0 #[.val (.ref cb), .val (.int (0 : Int32)), .val (.int (2 : Int32)), .unset, .unset, .unset] [] := by first | (simp [entryFrame, mkF, argsToLocals, Value.category]; done) | rfl
theorem pd8 : parseMethodDescriptor "([CI[BII)I" = some ⟨[(.array .char), .int, (.array .byte), .int, .int], some .int⟩ := by decide +kernel
set_option maxRecDepth 65536 in
set_option maxHeartbeats 4000000 in
theorem con_cm3 (l : Launch) (Z : State) (a0 : Array Value) (hw : ∀ d ∈ tables_1, d.before a0 Z = true) (cb : Addr) (h0 : Heap) (n0 : Nat) (Z0 : n0 ≤ h0.size) (c1 c2 : Int32) (kc : ClassId) (hB : Arv Z h0 cb kc .char (2 : Int32) [.int c1, .int c2] (.int (0 : Int32))) (hc1 : ¬ (255 : Int32) < c1) (hc2 : ¬ (255 : Int32) < c2) :
    own_Con l Z (⟨"java/lang/StringUTF16", "compress", "([CII)[B"⟩ : MethodName) jdk_52_method_16_code 6 (some (.array .byte)) ({ frames := 1, cells := 1, slots := 2, locals := 18 } : Room) #[(.ref cb), (.int (0 : Int32)), (.int (2 : Int32))] h0 (fun v h L => ∃ (b : Addr) (kb : ClassId), v = some (.ref b) ∧ Fr n0 L ∧ Keep h0 h [] ∧ h0.size ≤ b ∧ Arv Z h b kb .byte (2 : Int32) [.int (own_by c1), .int (own_by c2)] (.int (0 : Int32))) := by
  refine own_Con_of pn_48 ?_
  intro p e s m below meth c s₁ X0 hx hby hml hret hlk hnm hown hZ e0
  have hown : s.vm.findClass "java/lang/StringUTF16" = some m.cls := hown
  have hml : c.maxLocals = 6 := hml
  have N0 := Fr.nil n0
  show own_WP _ _ _ _ _ _ _ (s₁.setTop (entryFrame m #[(.ref cb), (.int (0 : Int32)), (.int (2 : Int32))] 6))
  rw [ef_con_cm3 m cb]
  refine own_iloadN (pc' := 1) X0 hx (hb hby d48_0) rfl rfl ?_
  refine own_newP (pc' := 3) (cap := 2) X0 hx hZ (own_w hw 16 rfl) e0 (hb hby d48_1) (by decide) (by decide) (by decide) (by decide) (by decide) rfl ?_
  intro T1 h1 k1 b1 g1 X1 e1 E1 A1
  have ne_cb_b1 : cb ≠ b1 := Nat.ne_of_lt (Nat.lt_of_lt_of_le hB.lt (Nat.le_of_eq g1.symm))
  have g_b1 : n0 ≤ b1 := Nat.le_trans Z0 (Nat.le_of_eq g1.symm)
  have sz_b1 : h0.size ≤ b1 := Nat.le_trans (Keep.refl h0 []).1 (Nat.le_of_eq g1.symm)
  have z1 : n0 ≤ h1.size := Nat.le_trans Z0 E1.1
  have K1 : Keep h0 h1 [] := (Keep.refl h0 []).ext E1
  have V1 : Arv Z h1 b1 k1 .byte (2 : Int32) [(.int (0 : Int32)), (.int (0 : Int32))] (.int (0 : Int32)) := (Arv.new A1 (by decide)).pad (pad_rep [] (.int (0 : Int32)) 2)
  refine own_astoreN (pc' := 4) (l' := #[.val (.ref cb), .val (.int (0 : Int32)), .val (.int (2 : Int32)), .val (.ref b1), .unset, .unset]) X1 hx (hb hby d48_3) rfl rfl rfl ?_
  refine own_aloadN (pc' := 5) X1 hx (hb hby d48_4) rfl rfl rfl ?_
  refine own_iloadN (pc' := 6) X1 hx (hb hby d48_5) rfl rfl ?_
  refine own_aloadN (pc' := 7) X1 hx (hb hby d48_6) rfl rfl rfl ?_
  refine own_iconst (pc' := 8) X1 hx (0 : Int32) (hb hby d48_7) rfl rfl ?_
  refine own_iloadN (pc' := 9) X1 hx (hb hby d48_8) rfl rfl ?_
  have f3 := (hB.ext E1)
  refine own_callS (pc' := 12) (W := 0) (y := (⟨"java/lang/StringUTF16", "compress", "([CI[BII)I"⟩ : MethodName)) X1 hx hZ hown (own_w hw 290 rfl) (own_w hw 291 rfl) (own_w hw 288 rfl) (own_w hw 292 rfl) (by decide) (con_cm5 l Z a0 hw cb b1 _ n0 z1 c1 c2 _ f3 hc1 hc2 _ V1 ne_cb_b1 g_b1) e1 pd8 [(.ref cb), (.int (0 : Int32)), (.ref b1), (.int (0 : Int32)), (.int (2 : Int32))] [] rfl rfl rfl (Nat.le_of_eq rfl) (by decide) (by decide) (by rw [hml]; rfl) (hb hby d48_9) (by decide) (by decide) rfl ?_
  intro v2 T2 L2 X2 q2
  obtain ⟨rfl, M2, K2, V2⟩ := q2
  obtain ⟨h2, e2⟩ : ∃ z, z = T2.heap := ⟨_, rfl⟩
  rw [← e2] at K2 V2
  have e2 := e2.symm
  have KK2 : Keep h0 h2 [] := K1.trans K2 (allS (P := fun x => x ∈ [] ∨ h0.size ≤ x) (Or.inr sz_b1) all0)
  have N2 := Fr.app N0 M2
  show own_WP _ _ _ _ _ _ _ (T2.setTop (mkF m 12 #[.val (.ref cb), .val (.int (0 : Int32)), .val (.int (2 : Int32)), .val (.ref b1), .unset, .unset] [(.int (2 : Int32))]))
  refine own_istore (pc' := 14) (l' := #[.val (.ref cb), .val (.int (0 : Int32)), .val (.int (2 : Int32)), .val (.ref b1), .val (.int (2 : Int32)), .unset]) X2 hx (hb hby d48_12) rfl rfl rfl ?_
  refine own_iload (pc' := 16) X2 hx (hb hby d48_14) rfl rfl ?_
  refine own_iloadN (pc' := 17) X2 hx (hb hby d48_16) rfl rfl ?_
  refine own_icmp_eq (pt := 57) (pf := 20) X2 hx (hb hby d48_17) rfl (by decide) rfl (fun hc17 => ?_) (fun hc17 => absurd (by decide) hc17)
  refine own_aloadN (pc' := 58) X2 hx (hb hby d48_57) rfl rfl rfl ?_
  refine own_retA X2 hx (fun _ _ _ _ q => q) hlk rfl hret rfl rfl (hb hby d48_58) (by decide) (by decide) ?_
  rw [e2]
  exact ⟨b1, k1, rfl, N2, KK2, sz_b1, V2⟩
theorem d2_0 : decode jdk_42_method_149_code 0 = .ok (.aload_n 0, 1) := by decide +kernel
theorem d2_1 : decode jdk_42_method_149_code 1 = .ok (.invokespecial 1, 3) := by decide +kernel
theorem d2_4 : decode jdk_42_method_149_code 4 = .ok (.iload_n 3, 1) := by decide +kernel
theorem d2_5 : decode jdk_42_method_149_code 5 = .ok (.ifCond .ne 22, 3) := by decide +kernel
theorem d2_8 : decode jdk_42_method_149_code 8 = .ok (.aload_n 0, 1) := by decide +kernel
theorem d2_9 : decode jdk_42_method_149_code 9 = .ok (.ldc 7, 2) := by decide +kernel
theorem d2_11 : decode jdk_42_method_149_code 11 = .ok (.getfield 9, 3) := by decide +kernel
theorem d2_14 : decode jdk_42_method_149_code 14 = .ok (.putfield 9, 3) := by decide +kernel
theorem d2_17 : decode jdk_42_method_149_code 17 = .ok (.aload_n 0, 1) := by decide +kernel
theorem d2_18 : decode jdk_42_method_149_code 18 = .ok (.ldc 7, 2) := by decide +kernel
theorem d2_20 : decode jdk_42_method_149_code 20 = .ok (.getfield 15, 3) := by decide +kernel
theorem d2_23 : decode jdk_42_method_149_code 23 = .ok (.putfield 15, 3) := by decide +kernel
theorem d2_26 : decode jdk_42_method_149_code 26 = .ok (.return_, 1) := by decide +kernel
theorem d2_27 : decode jdk_42_method_149_code 27 = .ok (.getstatic 38, 3) := by decide +kernel
theorem d2_30 : decode jdk_42_method_149_code 30 = .ok (.ifCond .eq 28, 3) := by decide +kernel
theorem d2_33 : decode jdk_42_method_149_code 33 = .ok (.aload_n 1, 1) := by decide +kernel
theorem d2_34 : decode jdk_42_method_149_code 34 = .ok (.iload_n 2, 1) := by decide +kernel
theorem d2_35 : decode jdk_42_method_149_code 35 = .ok (.iload_n 3, 1) := by decide +kernel
theorem d2_36 : decode jdk_42_method_149_code 36 = .ok (.invokestatic 177, 3) := by decide +kernel
theorem d2_39 : decode jdk_42_method_149_code 39 = .ok (.astore 5, 2) := by decide +kernel
theorem d2_41 : decode jdk_42_method_149_code 41 = .ok (.aload_n 0, 1) := by decide +kernel
theorem d2_42 : decode jdk_42_method_149_code 42 = .ok (.aload 5, 2) := by decide +kernel
theorem d2_44 : decode jdk_42_method_149_code 44 = .ok (.iload_n 3, 1) := by decide +kernel
theorem d2_45 : decode jdk_42_method_149_code 45 = .ok (.invokestatic 47, 3) := by decide +kernel
theorem d2_48 : decode jdk_42_method_149_code 48 = .ok (.putfield 15, 3) := by decide +kernel
theorem d2_51 : decode jdk_42_method_149_code 51 = .ok (.aload_n 0, 1) := by decide +kernel
theorem d2_52 : decode jdk_42_method_149_code 52 = .ok (.aload 5, 2) := by decide +kernel
theorem d2_54 : decode jdk_42_method_149_code 54 = .ok (.putfield 9, 3) := by decide +kernel
theorem d2_57 : decode jdk_42_method_149_code 57 = .ok (.return_, 1) := by decide +kernel
theorem pn_2 : plainFor (⟨"java/lang/String", "<init>", "([CIILjava/lang/Void;)V"⟩ : MethodName) = true := plainFor_of_name (by first | (simp [plainName, overriddenIn]; done) | decide +kernel)
theorem ef_con_n4 (m : MethodId) (a : Addr) (cb : Addr) : entryFrame m #[(.ref a), (.ref cb), (.int (0 : Int32)), (.int (2 : Int32)), .null] 6 = mkF m 0 #[.val (.ref a), .val (.ref cb), .val (.int (0 : Int32)), .val (.int (2 : Int32)), .val .null, .unset] [] := by first | (simp [entryFrame, mkF, argsToLocals, Value.category]; done) | rfl
theorem pd9 : parseMethodDescriptor "([CII)[B" = some ⟨[(.array .char), .int, .int], some (.array .byte)⟩ := by decide +kernel
theorem pd10 : parseMethodDescriptor "([BI)B" = some ⟨[(.array .byte), .int], some .byte⟩ := by decide +kernel
set_option maxRecDepth 65536 in
set_option maxHeartbeats 4000000 in
theorem con_n4 (l : Launch) (Z : State) (a0 : Array Value) (hw : ∀ d ∈ tables_1, d.before a0 Z = true) (a : Addr) (cb : Addr) (h0 : Heap) (n0 : Nat) (Z0 : n0 ≤ h0.size) (G1 : Int32) (fm : Value) (hG : own_G Z G1 fm) (X00 : own_Old Z n0 h0) (c1 c2 : Int32) (kc : ClassId) (hB : Arv Z h0 cb kc .char (2 : Int32) [.int c1, .int c2] (.int (0 : Int32))) (hc1 : ¬ (255 : Int32) < c1) (hc2 : ¬ (255 : Int32) < c2) (v0 c0 : Value) (hE : Exa Z h0 a "java/lang/String") (hC : Fld Z h0 a "java/lang/String" "coder" "B" c0) (hV : Fld Z h0 a "java/lang/String" "value" "[B" v0) (g_a : n0 ≤ a) (ne_a_cb : a ≠ cb) (ne_cb_a : cb ≠ a) :
    own_Con l Z (⟨"java/lang/String", "<init>", "([CIILjava/lang/Void;)V"⟩ : MethodName) jdk_42_method_149_code 6 none ({ frames := 2, cells := 1, slots := 2, locals := 35 } : Room) #[(.ref a), (.ref cb), (.int (0 : Int32)), (.int (2 : Int32)), .null] h0 (fun v h L => ∃ (b : Addr) (kb : ClassId), v = none ∧ Fr n0 L ∧ Keep h0 h [a] ∧ h0.size ≤ b ∧ Exa Z h a "java/lang/String" ∧ Fld Z h a "java/lang/String" "coder" "B" (.int (0 : Int32)) ∧ Fld Z h a "java/lang/String" "value" "[B" (.ref b) ∧ Arv Z h b kb .byte (2 : Int32) [.int (own_by c1), .int (own_by c2)] (.int (0 : Int32))) := by
  refine own_Con_of pn_2 ?_
  intro p e s m below meth c s₁ X0 hx hby hml hret hlk hnm hown hZ e0
  have hown : s.vm.findClass "java/lang/String" = some m.cls := hown
  have hml : c.maxLocals = 6 := hml
  have N0 := Fr.nil n0
  show own_WP _ _ _ _ _ _ _ (s₁.setTop (entryFrame m #[(.ref a), (.ref cb), (.int (0 : Int32)), (.int (2 : Int32)), .null] 6))
  rw [ef_con_n4 m a cb]
  refine own_aloadN (pc' := 1) X0 hx (hb hby d2_0) rfl rfl rfl ?_
  refine own_initO (pc' := 4) (W := 0) X0 hx hZ hown (own_w hw 12 rfl) (own_w hw 13 rfl) (own_w hw 14 rfl) e0 (by rw [hml]; rfl) (hb hby d2_1) (by decide) (Nat.le_of_eq rfl) (by decide) rfl ?_
  intro T1 X1 e1
  refine own_iloadN (pc' := 5) X1 hx (hb hby d2_4) rfl rfl ?_
  refine own_if_ne (pt := 27) (pf := 8) X1 hx (hb hby d2_5) rfl (by decide) rfl (fun hc5 => ?_) (fun hc5 => absurd hc5 (by decide))
  refine own_getS (pc' := 30) X1 hx hZ hown (host := "") (Or.inl (own_w hw 83 rfl)) Via.refl e1 (hG.1.ext X00.x) (hb hby d2_27) rfl ?_
  intro T2 X2 e2
  refine own_if_eq (pt := 58) (pf := 33) X2 hx (hb hby d2_30) rfl (by decide) rfl (fun hc30 => absurd hc30 (hG.2.1)) (fun hc30 => ?_)
  refine own_aloadN (pc' := 34) X2 hx (hb hby d2_33) rfl rfl rfl ?_
  refine own_iloadN (pc' := 35) X2 hx (hb hby d2_34) rfl rfl ?_
  refine own_iloadN (pc' := 36) X2 hx (hb hby d2_35) rfl rfl ?_
  refine own_callS (pc' := 39) (W := 0) (y := (⟨"java/lang/StringUTF16", "compress", "([CII)[B"⟩ : MethodName)) X2 hx hZ hown (own_w hw 286 rfl) (own_w hw 287 rfl) (own_w hw 288 rfl) (own_w hw 289 rfl) (by decide) (con_cm3 l Z a0 hw cb _ n0 Z0 c1 c2 _ hB hc1 hc2) e2 pd9 [(.ref cb), (.int (0 : Int32)), (.int (2 : Int32))] [] rfl rfl rfl (Nat.le_of_eq rfl) (by decide) (by decide) (by rw [hml]; rfl) (hb hby d2_36) (by decide) (by decide) rfl ?_
  intro v3 T3 L3 X3 q3
  obtain ⟨c3, k3, rfl, M3, K3, s3, V3⟩ := q3
  have ne_a_c3 : a ≠ c3 := Nat.ne_of_lt (Nat.lt_of_lt_of_le hE.lt s3)
  have ne_c3_a := ne_a_c3.symm
  have sz_c3 : h0.size ≤ c3 := Nat.le_trans (Keep.refl h0 [a]).1 s3
  obtain ⟨h3, e3⟩ : ∃ z, z = T3.heap := ⟨_, rfl⟩
  rw [← e3] at K3 V3
  have e3 := e3.symm
  have z3 : n0 ≤ h3.size := Nat.le_trans Z0 K3.1
  have KK3 : Keep h0 h3 [a] := (Keep.refl h0 [a]).trans K3 all0
  have N3 := Fr.app N0 M3
  show own_WP _ _ _ _ _ _ _ (T3.setTop (mkF m 39 #[.val (.ref a), .val (.ref cb), .val (.int (0 : Int32)), .val (.int (2 : Int32)), .val .null, .unset] [(.ref c3)]))
  refine own_astore (pc' := 41) (l' := #[.val (.ref a), .val (.ref cb), .val (.int (0 : Int32)), .val (.int (2 : Int32)), .val .null, .val (.ref c3)]) X3 hx (hb hby d2_39) rfl rfl rfl ?_
  refine own_aloadN (pc' := 42) X3 hx (hb hby d2_41) rfl rfl rfl ?_
  refine own_aload (pc' := 44) X3 hx (hb hby d2_42) rfl rfl rfl ?_
  refine own_iloadN (pc' := 45) X3 hx (hb hby d2_44) rfl rfl ?_
  refine own_callS (pc' := 48) (W := 1) (y := (⟨"java/lang/StringUTF16", "coderFromArrayLen", "([BI)B"⟩ : MethodName)) X3 hx hZ hown (own_w hw 293 rfl) (own_w hw 294 rfl) (own_w hw 288 rfl) (own_w hw 295 rfl) (by decide) (con_cfl l Z a0 hw c3 (2 : Int32) _ n0 z3 _ _ V3) e3 pd10 [(.ref c3), (.int (2 : Int32))] [(.ref a)] rfl rfl rfl (Nat.le_of_eq rfl) (by decide) (by decide) (by rw [hml]; rfl) (hb hby d2_45) (by decide) (by decide) rfl ?_
  intro v4 T4 L4 X4 q4
  obtain ⟨r4, rfl, hr4, rfl, e4⟩ := q4
  have M4 := Fr.nil n0
  have N4 := Fr.app N3 M4
  subst hr4
  show own_WP _ _ _ _ _ _ _ (T4.setTop (mkF m 48 #[.val (.ref a), .val (.ref cb), .val (.int (0 : Int32)), .val (.int (2 : Int32)), .val .null, .val (.ref c3)] [(.int (0 : Int32)), (.ref a)]))
  have f5 := (hC.keep K3 nin0)
  have f6 := (hE.keep K3)
  refine own_putF (pc' := 51) X4 hx hZ hown (host := "") (Or.inl (own_w hw 22 rfl)) Via.refl e4 f5 f6 (Or.inr ⟨(own_w hw 18 rfl), rfl, hnm⟩) (own_w hw 2 rfl) (ty := .byte) (by decide) rfl rfl (hb hby d2_48) rfl ?_
  intro T7 h7 X7 e7 W7
  have Fw7 := f5.same W7
  have N7 := Fr.snoc X7 N4 g_a
  have K7 : Keep h0 h7 [a] := KK3.wr W7 (Or.inl (List.mem_of_getElem? (i := 0) rfl))
  refine own_aloadN (pc' := 52) X7 hx (hb hby d2_51) rfl rfl rfl ?_
  refine own_aload (pc' := 54) X7 hx (hb hby d2_52) rfl rfl rfl ?_
  have f8 := ((hV.keep K3 nin0).other W7 (Or.inr (slot_ne (Or.inr (own_w hw 17 rfl)) (Or.inr (own_w hw 18 rfl)) (by decide) (t := (.array .byte)) (t' := .byte) (by decide +kernel) (by decide +kernel))))
  have f9 := (f6.wr W7)
  refine own_putF (pc' := 57) X7 hx hZ hown (host := "") (Or.inl (own_w hw 21 rfl)) Via.refl e7 f8 f9 (Or.inr ⟨(own_w hw 17 rfl), rfl, hnm⟩) (own_w hw 2 rfl) (ty := (.array .byte)) (by decide +kernel) rfl rfl (hb hby d2_54) rfl ?_
  intro T10 h10 X10 e10 W10
  have Fw10 := f8.same W10
  have N10 := Fr.snoc X10 N7 g_a
  have K10 : Keep h0 h10 [a] := K7.wr W10 (Or.inl (List.mem_of_getElem? (i := 0) rfl))
  have f11 := (f9.wr W10)
  have f12 := (Fw7.other W10 (Or.inr (slot_ne (Or.inr (own_w hw 18 rfl)) (Or.inr (own_w hw 17 rfl)) (by decide) (t := .byte) (t' := (.array .byte)) (by decide +kernel) (by decide +kernel))))
  have f13 := ((V3.other W7 ne_c3_a).other W10 ne_c3_a)
  refine own_ret0 X10 hx (fun _ _ _ _ q => q) hlk hret (hb hby d2_57) (by decide) (by decide) ?_
  rw [e10]
  exact ⟨c3, k3, rfl, N10, K10, sz_c3, f11, f12, Fw10, f13⟩
theorem d1_0 : decode jdk_42_method_3_code 0 = .ok (.aload_n 0, 1) := by decide +kernel
theorem d1_1 : decode jdk_42_method_3_code 1 = .ok (.aload_n 1, 1) := by decide +kernel
theorem d1_2 : decode jdk_42_method_3_code 2 = .ok (.iconst 0, 1) := by decide +kernel
theorem d1_3 : decode jdk_42_method_3_code 3 = .ok (.aload_n 1, 1) := by decide +kernel
theorem d1_4 : decode jdk_42_method_3_code 4 = .ok (.arraylength, 1) := by decide +kernel
theorem d1_5 : decode jdk_42_method_3_code 5 = .ok (.aconst_null, 1) := by decide +kernel
theorem d1_6 : decode jdk_42_method_3_code 6 = .ok (.invokespecial 27, 3) := by decide +kernel
theorem d1_9 : decode jdk_42_method_3_code 9 = .ok (.return_, 1) := by decide +kernel
theorem pn_1 : plainFor (⟨"java/lang/String", "<init>", "([C)V"⟩ : MethodName) = true := plainFor_of_name (by first | (simp [plainName, overriddenIn]; done) | decide +kernel)
theorem ef_con_n1 (m : MethodId) (a : Addr) (cb : Addr) : entryFrame m #[(.ref a), (.ref cb)] 2 = mkF m 0 #[.val (.ref a), .val (.ref cb)] [] := by first | (simp [entryFrame, mkF, argsToLocals, Value.category]; done) | rfl
theorem pd11 : parseMethodDescriptor "([CIILjava/lang/Void;)V" = some ⟨[(.array .char), .int, .int, (.object "java/lang/Void")], none⟩ := by decide +kernel
set_option maxRecDepth 65536 in
set_option maxHeartbeats 4000000 in
theorem con_n1 (l : Launch) (Z : State) (a0 : Array Value) (hw : ∀ d ∈ tables_1, d.before a0 Z = true) (a : Addr) (cb : Addr) (h0 : Heap) (n0 : Nat) (Z0 : n0 ≤ h0.size) (G1 : Int32) (fm : Value) (hG : own_G Z G1 fm) (X00 : own_Old Z n0 h0) (c1 c2 : Int32) (kc : ClassId) (hB : Arv Z h0 cb kc .char (2 : Int32) [.int c1, .int c2] (.int (0 : Int32))) (hc1 : ¬ (255 : Int32) < c1) (hc2 : ¬ (255 : Int32) < c2) (v0 c0 : Value) (hE : Exa Z h0 a "java/lang/String") (hC : Fld Z h0 a "java/lang/String" "coder" "B" c0) (hV : Fld Z h0 a "java/lang/String" "value" "[B" v0) (g_a : n0 ≤ a) (ne_a_cb : a ≠ cb) (ne_cb_a : cb ≠ a) :
    own_Con l Z (⟨"java/lang/String", "<init>", "([C)V"⟩ : MethodName) jdk_42_method_3_code 2 none ({ frames := 3, cells := 1, slots := 2, locals := 52 } : Room) #[(.ref a), (.ref cb)] h0 (fun v h L => ∃ (b : Addr) (kb : ClassId), v = none ∧ Fr n0 L ∧ Keep h0 h [a] ∧ h0.size ≤ b ∧ Exa Z h a "java/lang/String" ∧ Fld Z h a "java/lang/String" "coder" "B" (.int (0 : Int32)) ∧ Fld Z h a "java/lang/String" "value" "[B" (.ref b) ∧ Arv Z h b kb .byte (2 : Int32) [.int (own_by c1), .int (own_by c2)] (.int (0 : Int32))) := by
  refine own_Con_of pn_1 ?_
  intro p e s m below meth c s₁ X0 hx hby hml hret hlk hnm hown hZ e0
  have hown : s.vm.findClass "java/lang/String" = some m.cls := hown
  have hml : c.maxLocals = 2 := hml
  have N0 := Fr.nil n0
  show own_WP _ _ _ _ _ _ _ (s₁.setTop (entryFrame m #[(.ref a), (.ref cb)] 2))
  rw [ef_con_n1 m a cb]
  refine own_aloadN (pc' := 1) X0 hx (hb hby d1_0) rfl rfl rfl ?_
  refine own_aloadN (pc' := 2) X0 hx (hb hby d1_1) rfl rfl rfl ?_
  refine own_iconst (pc' := 3) X0 hx (0 : Int32) (hb hby d1_2) rfl rfl ?_
  refine own_aloadN (pc' := 4) X0 hx (hb hby d1_3) rfl rfl rfl ?_
  refine own_arrlen (pc' := 5) X0 hx hZ e0 hB (hb hby d1_4) rfl ?_
  refine own_anull (pc' := 6) X0 hx (hb hby d1_5) rfl ?_
  refine own_callN (pc' := 9) (W := 0) (y := (⟨"java/lang/String", "<init>", "([CIILjava/lang/Void;)V"⟩ : MethodName)) X0 hx hZ rfl hown (own_w hw 8 rfl) (own_w hw 9 rfl) (own_w hw 3 rfl) (own_w hw 11 rfl) (by decide) (con_n4 l Z a0 hw a cb _ n0 Z0 G1 fm hG X00 c1 c2 _ hB hc1 hc2 _ _ hE hC hV g_a ne_a_cb ne_cb_a) e0 pd11 a [(.ref cb), (.int (0 : Int32)), (.int (2 : Int32)), .null] [] rfl rfl rfl (Nat.le_of_eq rfl) (by decide) (by decide) (by rw [hml]; rfl) (hb hby d1_6) (by decide) (by decide) rfl ?_
  intro v1 T1 L1 X1 q1
  obtain ⟨c1, k1, rfl, M1, K1, s1, E1q, F1a, F1b, V1⟩ := q1
  have sz_c1 : h0.size ≤ c1 := Nat.le_trans (Keep.refl h0 [a]).1 s1
  obtain ⟨h1, e1⟩ : ∃ z, z = T1.heap := ⟨_, rfl⟩
  rw [← e1] at K1 E1q F1a F1b V1
  have e1 := e1.symm
  have KK1 : Keep h0 h1 [a] := (Keep.refl h0 [a]).trans K1 (allS (P := fun x => x ∈ [a] ∨ h0.size ≤ x) (Or.inl (List.mem_of_getElem? (i := 0) rfl)) all0)
  have N1 := Fr.app N0 M1
  show own_WP _ _ _ _ _ _ _ (T1.setTop (mkF m 9 #[.val (.ref a), .val (.ref cb)] []))
  refine own_ret0 X1 hx (fun _ _ _ _ q => q) hlk hret (hb hby d1_9) (by decide) (by decide) ?_
  rw [e1]
  exact ⟨c1, k1, rfl, N1, KK1, sz_c1, E1q, F1a, F1b, V1⟩
theorem d43_0 : decode jdk_29_method_65_code 0 = .ok (.iload_n 0, 1) := by decide +kernel
theorem d43_1 : decode jdk_29_method_65_code 1 = .ok (.iload_n 1, 1) := by decide +kernel
theorem d43_2 : decode jdk_29_method_65_code 2 = .ok (.if_icmp .lt 7, 3) := by decide +kernel
theorem d43_5 : decode jdk_29_method_65_code 5 = .ok (.iload_n 0, 1) := by decide +kernel
theorem d43_6 : decode jdk_29_method_65_code 6 = .ok (.goto 4, 3) := by decide +kernel
theorem d43_9 : decode jdk_29_method_65_code 9 = .ok (.iload_n 1, 1) := by decide +kernel
theorem d43_10 : decode jdk_29_method_65_code 10 = .ok (.ireturn, 1) := by decide +kernel
theorem pn_43 : plainFor (⟨"java/lang/Math", "max", "(II)I"⟩ : MethodName) = true := Jvm.Free.JP.mathPlain rfl (by decide +kernel)
theorem ef_con_max (m : MethodId) (c1 : Int32) (c2 : Int32) : entryFrame m #[(.int c1), (.int c2)] 2 = mkF m 0 #[.val (.int c1), .val (.int c2)] [] := by first | (simp [entryFrame, mkF, argsToLocals, Value.category]; done) | rfl
set_option maxRecDepth 65536 in
set_option maxHeartbeats 4000000 in
theorem con_max (l : Launch) (Z : State) (a0 : Array Value) (hw : ∀ d ∈ tables_1, d.before a0 Z = true) (c1 : Int32) (c2 : Int32) (h0 : Heap) :
    own_Con l Z (⟨"java/lang/Math", "max", "(II)I"⟩ : MethodName) jdk_29_method_65_code 2 (some .int) ({ frames := 0, cells := 0, slots := 0, locals := 0 } : Room) #[(.int c1), (.int c2)] h0 (fun v h L => ∃ z : Int32, v = some (.int z) ∧ (z = if c1 < c2 then c2 else c1) ∧ L = [] ∧ h = h0) := by
  refine own_Con_of pn_43 ?_
  intro p e s m below meth c s₁ X0 hx hby hml hret hlk hnm hown hZ e0
  have hown : s.vm.findClass "java/lang/Math" = some m.cls := hown
  have hml : c.maxLocals = 2 := hml
  show own_WP _ _ _ _ _ _ _ (s₁.setTop (entryFrame m #[(.int c1), (.int c2)] 2))
  rw [ef_con_max m c1 c2]
  refine own_iloadN (pc' := 1) X0 hx (hb hby d43_0) rfl rfl ?_
  refine own_iloadN (pc' := 2) X0 hx (hb hby d43_1) rfl rfl ?_
  refine own_icmp_lt (pt := 9) (pf := 5) X0 hx (hb hby d43_2) rfl (by decide) rfl (fun hc2 => ?_) (fun hc2 => ?_)
  · skip
    refine own_iloadN (pc' := 10) X0 hx (hb hby d43_9) rfl rfl ?_
    refine own_retI X0 hx (fun _ _ _ _ q => q) hlk hret (hb hby d43_10) (by decide) (by decide) ?_
    exact ⟨c2, rfl, by simp [hc2], rfl, e0⟩
  · skip
    refine own_iloadN (pc' := 6) X0 hx (hb hby d43_5) rfl rfl ?_
    refine own_goto (pc' := 10) X0 hx (hb hby d43_6) (by decide) rfl ?_
    refine own_retI X0 hx (fun _ _ _ _ q => q) hlk hret (hb hby d43_10) (by decide) (by decide) ?_
    exact ⟨c1, rfl, by simp [hc2], rfl, e0⟩
theorem d45_0 : decode jdk_29_method_69_code 0 = .ok (.iload_n 0, 1) := by decide +kernel
theorem d45_1 : decode jdk_29_method_69_code 1 = .ok (.iload_n 1, 1) := by decide +kernel
theorem d45_2 : decode jdk_29_method_69_code 2 = .ok (.if_icmp .gt 7, 3) := by decide +kernel
theorem d45_5 : decode jdk_29_method_69_code 5 = .ok (.iload_n 0, 1) := by decide +kernel
theorem d45_6 : decode jdk_29_method_69_code 6 = .ok (.goto 4, 3) := by decide +kernel
theorem d45_9 : decode jdk_29_method_69_code 9 = .ok (.iload_n 1, 1) := by decide +kernel
theorem d45_10 : decode jdk_29_method_69_code 10 = .ok (.ireturn, 1) := by decide +kernel
theorem pn_45 : plainFor (⟨"java/lang/Math", "min", "(II)I"⟩ : MethodName) = true := Jvm.Free.JP.mathPlain rfl (by decide +kernel)
theorem ef_con_min (m : MethodId) (c1 : Int32) (c2 : Int32) : entryFrame m #[(.int c1), (.int c2)] 2 = mkF m 0 #[.val (.int c1), .val (.int c2)] [] := by first | (simp [entryFrame, mkF, argsToLocals, Value.category]; done) | rfl
set_option maxRecDepth 65536 in
set_option maxHeartbeats 4000000 in
theorem con_min (l : Launch) (Z : State) (a0 : Array Value) (hw : ∀ d ∈ tables_1, d.before a0 Z = true) (c1 : Int32) (c2 : Int32) (h0 : Heap) :
    own_Con l Z (⟨"java/lang/Math", "min", "(II)I"⟩ : MethodName) jdk_29_method_69_code 2 (some .int) ({ frames := 0, cells := 0, slots := 0, locals := 0 } : Room) #[(.int c1), (.int c2)] h0 (fun v h L => ∃ z : Int32, v = some (.int z) ∧ (z = if c2 < c1 then c2 else c1) ∧ L = [] ∧ h = h0) := by
  refine own_Con_of pn_45 ?_
  intro p e s m below meth c s₁ X0 hx hby hml hret hlk hnm hown hZ e0
  have hown : s.vm.findClass "java/lang/Math" = some m.cls := hown
  have hml : c.maxLocals = 2 := hml
  show own_WP _ _ _ _ _ _ _ (s₁.setTop (entryFrame m #[(.int c1), (.int c2)] 2))
  rw [ef_con_min m c1 c2]
  refine own_iloadN (pc' := 1) X0 hx (hb hby d45_0) rfl rfl ?_
  refine own_iloadN (pc' := 2) X0 hx (hb hby d45_1) rfl rfl ?_
  refine own_icmp_gt (pt := 9) (pf := 5) X0 hx (hb hby d45_2) rfl (by decide) rfl (fun hc2 => ?_) (fun hc2 => ?_)
  · skip
    refine own_iloadN (pc' := 10) X0 hx (hb hby d45_9) rfl rfl ?_
    refine own_retI X0 hx (fun _ _ _ _ q => q) hlk hret (hb hby d45_10) (by decide) (by decide) ?_
    exact ⟨c2, rfl, by simp [hc2], rfl, e0⟩
  · skip
    refine own_iloadN (pc' := 6) X0 hx (hb hby d45_5) rfl rfl ?_
    refine own_goto (pc' := 10) X0 hx (hb hby d45_6) (by decide) rfl ?_
    refine own_retI X0 hx (fun _ _ _ _ q => q) hlk hret (hb hby d45_10) (by decide) (by decide) ?_
    exact ⟨c1, rfl, by simp [hc2], rfl, e0⟩
theorem d42_0 : decode jdk_48_method_27_code 0 = .ok (.iload_n 0, 1) := by decide +kernel
theorem d42_1 : decode jdk_48_method_27_code 1 = .ok (.iload_n 1, 1) := by decide +kernel
theorem d42_2 : decode jdk_48_method_27_code 2 = .ok (.iload_n 2, 1) := by decide +kernel
theorem d42_3 : decode jdk_48_method_27_code 3 = .ok (.invokestatic 194, 3) := by decide +kernel
theorem d42_6 : decode jdk_48_method_27_code 6 = .ok (.iadd, 1) := by decide +kernel
theorem d42_7 : decode jdk_48_method_27_code 7 = .ok (.istore_n 3, 1) := by decide +kernel
theorem d42_8 : decode jdk_48_method_27_code 8 = .ok (.iconst 0, 1) := by decide +kernel
theorem d42_9 : decode jdk_48_method_27_code 9 = .ok (.iload_n 3, 1) := by decide +kernel
theorem d42_10 : decode jdk_48_method_27_code 10 = .ok (.if_icmp .ge 11, 3) := by decide +kernel
theorem d42_13 : decode jdk_48_method_27_code 13 = .ok (.iload_n 3, 1) := by decide +kernel
theorem d42_14 : decode jdk_48_method_27_code 14 = .ok (.ldc 200, 2) := by decide +kernel
theorem d42_16 : decode jdk_48_method_27_code 16 = .ok (.if_icmp .gt 5, 3) := by decide +kernel
theorem d42_19 : decode jdk_48_method_27_code 19 = .ok (.iload_n 3, 1) := by decide +kernel
theorem d42_20 : decode jdk_48_method_27_code 20 = .ok (.ireturn, 1) := by decide +kernel
theorem pn_42 : plainFor (⟨"jdk/internal/util/ArraysSupport", "newLength", "(III)I"⟩ : MethodName) = true := plainFor_of_name (by first | (simp [plainName, overriddenIn]; done) | decide +kernel)
theorem ef_con_nl (m : MethodId) (c1 : Int32) (c2 : Int32) (c3 : Int32) : entryFrame m #[(.int c1), (.int c2), (.int c3)] 4 = mkF m 0 #[.val (.int c1), .val (.int c2), .val (.int c3), .unset] [] := by first | (simp [entryFrame, mkF, argsToLocals, Value.category]; done) | rfl
theorem pd12 : parseMethodDescriptor "(II)I" = some ⟨[.int, .int], some .int⟩ := by decide +kernel
set_option maxRecDepth 65536 in
set_option maxHeartbeats 4000000 in
theorem con_nl (l : Launch) (Z : State) (a0 : Array Value) (hw : ∀ d ∈ tables_1, d.before a0 Z = true) (c1 : Int32) (c2 : Int32) (c3 : Int32) (h0 : Heap) (hb1 : 0 ≤ c1.toInt ∧ c1.toInt ≤ 10000) (hb2 : 1 ≤ c2.toInt ∧ c2.toInt ≤ 10000) (hb3 : 0 ≤ c3.toInt ∧ c3.toInt ≤ 20000) :
    own_Con l Z (⟨"jdk/internal/util/ArraysSupport", "newLength", "(III)I"⟩ : MethodName) jdk_48_method_27_code 4 (some .int) ({ frames := 1, cells := 0, slots := 0, locals := 14 } : Room) #[(.int c1), (.int c2), (.int c3)] h0 (fun v h L => ∃ z : Int32, v = some (.int z) ∧ (z.toInt = c1.toInt + max c2.toInt c3.toInt) ∧ L = [] ∧ h = h0) := by
  refine own_Con_of pn_42 ?_
  intro p e s m below meth c s₁ X0 hx hby hml hret hlk hnm hown hZ e0
  have hown : s.vm.findClass "jdk/internal/util/ArraysSupport" = some m.cls := hown
  have hml : c.maxLocals = 4 := hml
  show own_WP _ _ _ _ _ _ _ (s₁.setTop (entryFrame m #[(.int c1), (.int c2), (.int c3)] 4))
  rw [ef_con_nl m c1 c2 c3]
  refine own_iloadN (pc' := 1) X0 hx (hb hby d42_0) rfl rfl ?_
  refine own_iloadN (pc' := 2) X0 hx (hb hby d42_1) rfl rfl ?_
  refine own_iloadN (pc' := 3) X0 hx (hb hby d42_2) rfl rfl ?_
  refine own_callS (pc' := 6) (W := 1) (y := (⟨"java/lang/Math", "max", "(II)I"⟩ : MethodName)) X0 hx hZ hown (own_w hw 267 rfl) (own_w hw 268 rfl) (own_w hw 269 rfl) (own_w hw 270 rfl) (by decide) (con_max l Z a0 hw c2 c3 _ ) e0 pd12 [(.int c2), (.int c3)] [(.int c1)] rfl rfl rfl (Nat.le_of_eq rfl) (by decide) (by decide) (by rw [hml]; rfl) (hb hby d42_3) (by decide) (by decide) rfl ?_
  intro v1 T1 L1 X1 q1
  obtain ⟨r1, rfl, hr1, rfl, e1⟩ := q1
  show own_WP _ _ _ _ _ _ _ (T1.setTop (mkF m 6 #[.val (.int c1), .val (.int c2), .val (.int c3), .unset] [(.int r1), (.int c1)]))
  have hm := own_mx hr1
  refine own_iadd (pc' := 7) X1 hx (hb hby d42_6) rfl ?_
  obtain ⟨v2, hv2⟩ : ∃ z : Int32, z = (c1 + r1) := ⟨_, rfl⟩
  refine own_istoreN (pc' := 8) (l' := #[.val (.int c1), .val (.int c2), .val (.int c3), .val (.int v2)]) X1 hx (hb hby d42_7) hv2 rfl rfl ?_
  have hz : v2.toInt = c1.toInt + max c2.toInt c3.toInt := by rw [own_add hv2 (by omega) (by omega)]; omega
  have hp : (0 : Int32) < v2 := by rw [Int32.lt_iff_toInt_lt]; show (0 : Int) < _; omega
  have hq : ¬ (2147483639 : Int32) < v2 := by rw [Int32.lt_iff_toInt_lt]; show ¬ (2147483639 : Int) < _; omega
  refine own_iconst (pc' := 9) X1 hx (0 : Int32) (hb hby d42_8) rfl rfl ?_
  refine own_iloadN (pc' := 10) X1 hx (hb hby d42_9) rfl rfl ?_
  refine own_icmp_ge (pt := 21) (pf := 13) X1 hx (hb hby d42_10) rfl (by decide) rfl (fun hc10 => absurd (hp) hc10) (fun hc10 => ?_)
  refine own_iloadN (pc' := 14) X1 hx (hb hby d42_13) rfl rfl ?_
  refine own_ldcInt (pc' := 16) X1 hx hZ hown (own_w hw 271 rfl) (hb hby d42_14) rfl ?_
  refine own_icmp_gt (pt := 21) (pf := 19) X1 hx (hb hby d42_16) rfl (by decide) rfl (fun hc16 => absurd hc16 (hq)) (fun hc16 => ?_)
  refine own_iloadN (pc' := 20) X1 hx (hb hby d42_19) rfl rfl ?_
  refine own_retI X1 hx (fun _ _ _ _ q => q) hlk hret (hb hby d42_20) (by decide) (by decide) ?_
  exact ⟨v2, rfl, hz, rfl, e1⟩
theorem d41_0 : decode jdk_68_method_10_code 0 = .ok (.aload_n 0, 1) := by decide +kernel
theorem d41_1 : decode jdk_68_method_10_code 1 = .ok (.getfield 15, 3) := by decide +kernel
theorem d41_4 : decode jdk_68_method_10_code 4 = .ok (.arraylength, 1) := by decide +kernel
theorem d41_5 : decode jdk_68_method_10_code 5 = .ok (.istore_n 2, 1) := by decide +kernel
theorem d41_6 : decode jdk_68_method_10_code 6 = .ok (.iload_n 1, 1) := by decide +kernel
theorem d41_7 : decode jdk_68_method_10_code 7 = .ok (.aload_n 0, 1) := by decide +kernel
theorem d41_8 : decode jdk_68_method_10_code 8 = .ok (.getfield 22, 3) := by decide +kernel
theorem d41_11 : decode jdk_68_method_10_code 11 = .ok (.ishl, 1) := by decide +kernel
theorem d41_12 : decode jdk_68_method_10_code 12 = .ok (.istore_n 3, 1) := by decide +kernel
theorem d41_13 : decode jdk_68_method_10_code 13 = .ok (.iload_n 3, 1) := by decide +kernel
theorem d41_14 : decode jdk_68_method_10_code 14 = .ok (.iload_n 2, 1) := by decide +kernel
theorem d41_15 : decode jdk_68_method_10_code 15 = .ok (.isub, 1) := by decide +kernel
theorem d41_16 : decode jdk_68_method_10_code 16 = .ok (.istore 4, 2) := by decide +kernel
theorem d41_18 : decode jdk_68_method_10_code 18 = .ok (.iload_n 2, 1) := by decide +kernel
theorem d41_19 : decode jdk_68_method_10_code 19 = .ok (.iload 4, 2) := by decide +kernel
theorem d41_21 : decode jdk_68_method_10_code 21 = .ok (.iload_n 2, 1) := by decide +kernel
theorem d41_22 : decode jdk_68_method_10_code 22 = .ok (.iconst 2, 1) := by decide +kernel
theorem d41_23 : decode jdk_68_method_10_code 23 = .ok (.aload_n 0, 1) := by decide +kernel
theorem d41_24 : decode jdk_68_method_10_code 24 = .ok (.getfield 22, 3) := by decide +kernel
theorem d41_27 : decode jdk_68_method_10_code 27 = .ok (.ishl, 1) := by decide +kernel
theorem d41_28 : decode jdk_68_method_10_code 28 = .ok (.iadd, 1) := by decide +kernel
theorem d41_29 : decode jdk_68_method_10_code 29 = .ok (.invokestatic 114, 3) := by decide +kernel
theorem d41_32 : decode jdk_68_method_10_code 32 = .ok (.istore 5, 2) := by decide +kernel
theorem d41_34 : decode jdk_68_method_10_code 34 = .ok (.iload 5, 2) := by decide +kernel
theorem d41_36 : decode jdk_68_method_10_code 36 = .ok (.ldc 39, 2) := by decide +kernel
theorem d41_38 : decode jdk_68_method_10_code 38 = .ok (.if_icmp .ne 13, 3) := by decide +kernel
theorem d41_51 : decode jdk_68_method_10_code 51 = .ok (.iload 5, 2) := by decide +kernel
theorem d41_53 : decode jdk_68_method_10_code 53 = .ok (.aload_n 0, 1) := by decide +kernel
theorem d41_54 : decode jdk_68_method_10_code 54 = .ok (.getfield 22, 3) := by decide +kernel
theorem d41_57 : decode jdk_68_method_10_code 57 = .ok (.ishr, 1) := by decide +kernel
theorem d41_58 : decode jdk_68_method_10_code 58 = .ok (.ireturn, 1) := by decide +kernel
theorem pn_41 : plainFor (⟨"java/lang/AbstractStringBuilder", "newCapacity", "(I)I"⟩ : MethodName) = true := plainFor_of_name (by first | (simp [plainName, overriddenIn]; done) | decide +kernel)
theorem ef_con_nc (m : MethodId) (sb : Addr) (mi : Int32) : entryFrame m #[(.ref sb), (.int mi)] 6 = mkF m 0 #[.val (.ref sb), .val (.int mi), .unset, .unset, .unset, .unset] [] := by first | (simp [entryFrame, mkF, argsToLocals, Value.category]; done) | rfl
theorem pd13 : parseMethodDescriptor "(III)I" = some ⟨[.int, .int, .int], some .int⟩ := by decide +kernel
set_option maxRecDepth 65536 in
set_option maxHeartbeats 4000000 in
theorem con_nc (l : Launch) (Z : State) (a0 : Array Value) (hw : ∀ d ∈ tables_1, d.before a0 Z = true) (sb : Addr) (mi : Int32) (h0 : Heap) (n0 : Nat) (Z0 : n0 ≤ h0.size) (d : Addr) (kd : ClassId) (cap cnt : Int32) (vs : List Value) (bE : Exa Z h0 sb "java/lang/StringBuilder") (bV : Fld Z h0 sb "java/lang/AbstractStringBuilder" "value" "[B" (.ref d)) (bC : Fld Z h0 sb "java/lang/AbstractStringBuilder" "coder" "B" (.int (0 : Int32))) (bN : Fld Z h0 sb "java/lang/AbstractStringBuilder" "count" "I" (.int cnt)) (bA : Arv Z h0 d kd .byte cap vs (.int (0 : Int32))) (hB : own_BA Z kd) (hcap : 0 ≤ cap.toInt ∧ cap.toInt ≤ 1000) (hmi : cap.toInt < mi.toInt ∧ mi.toInt ≤ 1000) :
    own_Con l Z (⟨"java/lang/AbstractStringBuilder", "newCapacity", "(I)I"⟩ : MethodName) jdk_68_method_10_code 6 (some .int) ({ frames := 2, cells := 0, slots := 0, locals := 31 } : Room) #[(.ref sb), (.int mi)] h0 (fun v h L => ∃ z : Int32, v = some (.int z) ∧ (z.toInt = max mi.toInt (2 * cap.toInt + 2)) ∧ L = [] ∧ h = h0) := by
  refine own_Con_of pn_41 ?_
  intro p e s m below meth c s₁ X0 hx hby hml hret hlk hnm hown hZ e0
  have hown : s.vm.findClass "java/lang/AbstractStringBuilder" = some m.cls := hown
  have hml : c.maxLocals = 6 := hml
  show own_WP _ _ _ _ _ _ _ (s₁.setTop (entryFrame m #[(.ref sb), (.int mi)] 6))
  rw [ef_con_nc m sb mi]
  refine own_aloadN (pc' := 1) X0 hx (hb hby d41_0) rfl rfl rfl ?_
  refine own_getF (pc' := 4) X0 hx hZ hown (host := "") (Or.inl (own_w hw 58 rfl)) Via.refl e0 bV (hb hby d41_1) rfl ?_
  intro T1 X1 e1
  refine own_arrlen (pc' := 5) X1 hx hZ e1 bA (hb hby d41_4) rfl ?_
  refine own_istoreN (pc' := 6) (l' := #[.val (.ref sb), .val (.int mi), .val (.int cap), .unset, .unset, .unset]) X1 hx (hb hby d41_5) rfl rfl rfl ?_
  refine own_iloadN (pc' := 7) X1 hx (hb hby d41_6) rfl rfl ?_
  refine own_aloadN (pc' := 8) X1 hx (hb hby d41_7) rfl rfl rfl ?_
  refine own_getF (pc' := 11) X1 hx hZ hown (host := "") (Or.inl (own_w hw 60 rfl)) Via.refl e1 bC (hb hby d41_8) rfl ?_
  intro T2 X2 e2
  refine own_ishl (pc' := 12) X2 hx (hb hby d41_11) rfl ?_
  obtain ⟨v3, hv3⟩ : ∃ z : Int32, z = (mi <<< ((0 : Int32) &&& 31)) := ⟨_, rfl⟩
  refine own_istoreN (pc' := 13) (l' := #[.val (.ref sb), .val (.int mi), .val (.int cap), .val (.int v3), .unset, .unset]) X2 hx (hb hby d41_12) hv3 rfl rfl ?_
  refine own_iloadN (pc' := 14) X2 hx (hb hby d41_13) rfl rfl ?_
  refine own_iloadN (pc' := 15) X2 hx (hb hby d41_14) rfl rfl ?_
  refine own_isub (pc' := 16) X2 hx (hb hby d41_15) rfl ?_
  obtain ⟨v4, hv4⟩ : ∃ z : Int32, z = (v3 - cap) := ⟨_, rfl⟩
  refine own_istore (pc' := 18) (l' := #[.val (.ref sb), .val (.int mi), .val (.int cap), .val (.int v3), .val (.int v4), .unset]) X2 hx (hb hby d41_16) hv4 rfl rfl ?_
  have hg4 : v4.toInt = mi.toInt - cap.toInt := by rw [own_sub (a := mi) (b := cap) (by rw [hv4, hv3, own_shl0]) (by omega) (by omega)]
  refine own_iloadN (pc' := 19) X2 hx (hb hby d41_18) rfl rfl ?_
  refine own_iload (pc' := 21) X2 hx (hb hby d41_19) rfl rfl ?_
  refine own_iloadN (pc' := 22) X2 hx (hb hby d41_21) rfl rfl ?_
  refine own_iconst (pc' := 23) X2 hx (2 : Int32) (hb hby d41_22) rfl rfl ?_
  refine own_aloadN (pc' := 24) X2 hx (hb hby d41_23) rfl rfl rfl ?_
  refine own_getF (pc' := 27) X2 hx hZ hown (host := "") (Or.inl (own_w hw 60 rfl)) Via.refl e2 bC (hb hby d41_24) rfl ?_
  intro T5 X5 e5
  refine own_ishl (pc' := 28) X5 hx (hb hby d41_27) rfl ?_
  refine own_iadd (pc' := 29) X5 hx (hb hby d41_28) rfl ?_
  have hw4 : ((cap + ((2 : Int32) <<< ((0 : Int32) &&& 31)))).toInt = cap.toInt + 2 := by rw [own_add (a := cap) (b := 2) (by rw [own_shl0]) (by omega) (by decide)]; rfl
  refine own_callS (pc' := 32) (W := 0) (y := (⟨"jdk/internal/util/ArraysSupport", "newLength", "(III)I"⟩ : MethodName)) X5 hx hZ hown (own_w hw 263 rfl) (own_w hw 264 rfl) (own_w hw 265 rfl) (own_w hw 266 rfl) (by decide) (con_nl l Z a0 hw cap v4 (cap + ((2 : Int32) <<< ((0 : Int32) &&& 31))) _ (by omega) (by omega) (by omega)) e5 pd13 [(.int cap), (.int v4), (.int (cap + ((2 : Int32) <<< ((0 : Int32) &&& 31))))] [] rfl rfl rfl (Nat.le_of_eq rfl) (by decide) (by decide) (by rw [hml]; rfl) (hb hby d41_29) (by decide) (by decide) rfl ?_
  intro v6 T6 L6 X6 q6
  obtain ⟨r6, rfl, hr6, rfl, e6⟩ := q6
  have hrr : r6.toInt = max mi.toInt (2 * cap.toInt + 2) := by rw [hr6, hg4, hw4]; omega
  show own_WP _ _ _ _ _ _ _ (T6.setTop (mkF m 32 #[.val (.ref sb), .val (.int mi), .val (.int cap), .val (.int v3), .val (.int v4), .unset] [(.int r6)]))
  refine own_istore (pc' := 34) (l' := #[.val (.ref sb), .val (.int mi), .val (.int cap), .val (.int v3), .val (.int v4), .val (.int r6)]) X6 hx (hb hby d41_32) rfl rfl rfl ?_
  refine own_iload (pc' := 36) X6 hx (hb hby d41_34) rfl rfl ?_
  refine own_ldcInt (pc' := 38) X6 hx hZ hown (own_w hw 272 rfl) (hb hby d41_36) rfl ?_
  refine own_icmp_ne (pt := 51) (pf := 41) X6 hx (hb hby d41_38) rfl (by decide) rfl (fun hc38 => ?_) (fun hc38 => absurd hc38 (by rw [← Int32.toInt_inj]; show ¬ _ = (2147483647 : Int); omega))
  refine own_iload (pc' := 53) X6 hx (hb hby d41_51) rfl rfl ?_
  refine own_aloadN (pc' := 54) X6 hx (hb hby d41_53) rfl rfl rfl ?_
  refine own_getF (pc' := 57) X6 hx hZ hown (host := "") (Or.inl (own_w hw 60 rfl)) Via.refl e6 bC (hb hby d41_54) rfl ?_
  intro T7 X7 e7
  refine own_ishr (pc' := 58) X7 hx (hb hby d41_57) rfl ?_
  refine own_retI X7 hx (fun _ _ _ _ q => q) hlk hret (hb hby d41_58) (by decide) (by decide) ?_
  exact ⟨(r6 >>> ((0 : Int32) &&& 31)), rfl, by rw [own_shr0]; exact hrr, rfl, e7⟩
theorem d44_0 : decode jdk_65_method_121_code 0 = .ok (.iload_n 1, 1) := by decide +kernel
theorem d44_1 : decode jdk_65_method_121_code 1 = .ok (.aload_n 0, 1) := by decide +kernel
theorem d44_2 : decode jdk_65_method_121_code 2 = .ok (.arraylength, 1) := by decide +kernel
theorem d44_3 : decode jdk_65_method_121_code 3 = .ok (.if_icmp .ne 11, 3) := by decide +kernel
theorem d44_14 : decode jdk_65_method_121_code 14 = .ok (.iload_n 1, 1) := by decide +kernel
theorem d44_15 : decode jdk_65_method_121_code 15 = .ok (.newarray .byte, 2) := by decide +kernel
theorem d44_17 : decode jdk_65_method_121_code 17 = .ok (.astore_n 2, 1) := by decide +kernel
theorem d44_18 : decode jdk_65_method_121_code 18 = .ok (.aload_n 0, 1) := by decide +kernel
theorem d44_19 : decode jdk_65_method_121_code 19 = .ok (.iconst 0, 1) := by decide +kernel
theorem d44_20 : decode jdk_65_method_121_code 20 = .ok (.aload_n 2, 1) := by decide +kernel
theorem d44_21 : decode jdk_65_method_121_code 21 = .ok (.iconst 0, 1) := by decide +kernel
theorem d44_22 : decode jdk_65_method_121_code 22 = .ok (.aload_n 0, 1) := by decide +kernel
theorem d44_23 : decode jdk_65_method_121_code 23 = .ok (.arraylength, 1) := by decide +kernel
theorem d44_24 : decode jdk_65_method_121_code 24 = .ok (.iload_n 1, 1) := by decide +kernel
theorem d44_25 : decode jdk_65_method_121_code 25 = .ok (.invokestatic 304, 3) := by decide +kernel
theorem d44_28 : decode jdk_65_method_121_code 28 = .ok (.invokestatic 150, 3) := by decide +kernel
theorem d44_31 : decode jdk_65_method_121_code 31 = .ok (.aload_n 2, 1) := by decide +kernel
theorem d44_32 : decode jdk_65_method_121_code 32 = .ok (.areturn, 1) := by decide +kernel
theorem pn_44 : plainFor (⟨"java/util/Arrays", "copyOf", "([BI)[B"⟩ : MethodName) = true := plainFor_of_name (by first | (simp [plainName, overriddenIn]; done) | decide +kernel)
theorem ef_con_co (m : MethodId) (b0 : Addr) (nl : Int32) : entryFrame m #[(.ref b0), (.int nl)] 3 = mkF m 0 #[.val (.ref b0), .val (.int nl), .unset] [] := by first | (simp [entryFrame, mkF, argsToLocals, Value.category]; done) | rfl
set_option maxRecDepth 65536 in
set_option maxHeartbeats 4000000 in
theorem con_co (l : Launch) (Z : State) (a0 : Array Value) (hw : ∀ d ∈ tables_1, d.before a0 Z = true) (b0 : Addr) (nl : Int32) (h0 : Heap) (n0 : Nat) (Z0 : n0 ≤ h0.size) (kb : ClassId) (zl : Int32) (vs : List Value) (hA : Arv Z h0 b0 kb .byte zl vs (.int (0 : Int32))) (hzl : 0 ≤ zl.toInt ∧ zl.toInt < nl.toInt ∧ nl.toInt ≤ 170) (hlen : vs.length = zl.toNatClampNeg) :
    own_Con l Z (⟨"java/util/Arrays", "copyOf", "([BI)[B"⟩ : MethodName) jdk_65_method_121_code 3 (some (.array .byte)) ({ frames := 1, cells := 1, slots := 170, locals := 32 } : Room) #[(.ref b0), (.int nl)] h0 (fun v h L => ∃ (b : Addr) (kb : ClassId) (us : List Value), v = some (.ref b) ∧ Fr n0 L ∧ Keep h0 h [] ∧ h0.size ≤ b ∧ Arv Z h b kb .byte nl us (.int (0 : Int32)) ∧ us.length = nl.toNatClampNeg ∧ us.take zl.toNatClampNeg = vs ∧ own_BA Z kb) := by
  refine own_Con_of pn_44 ?_
  intro p e s m below meth c s₁ X0 hx hby hml hret hlk hnm hown hZ e0
  have hown : s.vm.findClass "java/util/Arrays" = some m.cls := hown
  have hml : c.maxLocals = 3 := hml
  have N0 := Fr.nil n0
  show own_WP _ _ _ _ _ _ _ (s₁.setTop (entryFrame m #[(.ref b0), (.int nl)] 3))
  rw [ef_con_co m b0 nl]
  refine own_iloadN (pc' := 1) X0 hx (hb hby d44_0) rfl rfl ?_
  refine own_aloadN (pc' := 2) X0 hx (hb hby d44_1) rfl rfl rfl ?_
  refine own_arrlen (pc' := 3) X0 hx hZ e0 hA (hb hby d44_2) rfl ?_
  refine own_icmp_ne (pt := 14) (pf := 6) X0 hx (hb hby d44_3) rfl (by decide) rfl (fun hc3 => ?_) (fun hc3 => absurd hc3 (fun q => by rw [q] at hzl; omega))
  refine own_iloadN (pc' := 15) X0 hx (hb hby d44_14) rfl rfl ?_
  refine own_newPB (pc' := 17) (cap := 170) X0 hx hZ (own_w hw 16 rfl) e0 (hb hby d44_15) (own_nn (by omega)) (by have q := own_nat (x := nl) (by omega); omega) (by decide) (by decide) (by decide) rfl ?_
  intro T1 h1 k1 b1 g1 X1 e1 E1 A1 Bk1
  have g_b1 : n0 ≤ b1 := Nat.le_trans Z0 (Nat.le_of_eq g1.symm)
  have sz_b1 : h0.size ≤ b1 := Nat.le_trans (Keep.refl h0 []).1 (Nat.le_of_eq g1.symm)
  have K1 : Keep h0 h1 [] := (Keep.refl h0 []).ext E1
  have V1 : Arv Z h1 b1 k1 .byte nl (List.replicate nl.toNatClampNeg (.int (0 : Int32))) (.int (0 : Int32)) := (Arv.new A1 (own_nn (by omega))).pad (pad_rep [] (.int (0 : Int32)) nl.toNatClampNeg)
  refine own_astoreN (pc' := 18) (l' := #[.val (.ref b0), .val (.int nl), .val (.ref b1)]) X1 hx (hb hby d44_17) rfl rfl rfl ?_
  refine own_aloadN (pc' := 19) X1 hx (hb hby d44_18) rfl rfl rfl ?_
  refine own_iconst (pc' := 20) X1 hx (0 : Int32) (hb hby d44_19) rfl rfl ?_
  refine own_aloadN (pc' := 21) X1 hx (hb hby d44_20) rfl rfl rfl ?_
  refine own_iconst (pc' := 22) X1 hx (0 : Int32) (hb hby d44_21) rfl rfl ?_
  refine own_aloadN (pc' := 23) X1 hx (hb hby d44_22) rfl rfl rfl ?_
  have f2 := (hA.ext E1)
  refine own_arrlen (pc' := 24) X1 hx hZ e1 f2 (hb hby d44_23) rfl ?_
  refine own_iloadN (pc' := 25) X1 hx (hb hby d44_24) rfl rfl ?_
  refine own_callS (pc' := 28) (W := 4) (y := (⟨"java/lang/Math", "min", "(II)I"⟩ : MethodName)) X1 hx hZ hown (own_w hw 276 rfl) (own_w hw 277 rfl) (own_w hw 269 rfl) (own_w hw 278 rfl) (by decide) (con_min l Z a0 hw zl nl _ ) e1 pd12 [(.int zl), (.int nl)] [(.int (0 : Int32)), (.ref b1), (.int (0 : Int32)), (.ref b0)] rfl rfl rfl (Nat.le_of_eq rfl) (by decide) (by decide) (by rw [hml]; rfl) (hb hby d44_25) (by decide) (by decide) rfl ?_
  intro v3 T3 L3 X3 q3
  obtain ⟨r3, rfl, hr3, rfl, e3⟩ := q3
  have N3 := Fr.app N0 (Fr.nil n0)
  show own_WP _ _ _ _ _ _ _ (T3.setTop (mkF m 28 #[.val (.ref b0), .val (.int nl), .val (.ref b1)] [(.int r3), (.int (0 : Int32)), (.ref b1), (.int (0 : Int32)), (.ref b0)]))
  have hmn := own_mn hr3
  have er3 : zl = r3 := Int32.toInt_inj.mp (by omega)
  subst er3
  have q1 := own_nat (x := zl) (by omega)
  have q2 := own_nat (x := nl) (by omega)
  refine own_cpA (pc' := 31) (W := 0) (n0 := n0) X3 hx hZ hown (own_w hw 279 rfl) (own_w hw 110 rfl) (own_w hw 108 rfl) (own_w hw 109 rfl) e3 f2 V1 (by decide) (by decide) (own_nn (by omega)) (by show 0 + _ ≤ _; omega) (by show 0 + _ ≤ _; omega) (own_us (by show 0 + _ ≤ _; omega)) (by rw [List.length_replicate]; show 0 + _ ≤ _; omega) N3 g_b1 (by rw [hml]; rfl) (hb hby d44_28) (by decide) (Nat.le_of_eq rfl) (by decide) rfl ?_
  intro T4 h4 L4 X4 e4 N4 K4 V4
  have KK4 : Keep h0 h4 [] := K1.trans K4 (allS (P := fun x => x ∈ [] ∨ h0.size ≤ x) (Or.inr sz_b1) all0)
  refine own_aloadN (pc' := 32) X4 hx (hb hby d44_31) rfl rfl rfl ?_
  refine own_retA X4 hx (fun _ _ _ _ q => q) hlk rfl hret rfl rfl (hb hby d44_32) (by decide) (by decide) ?_
  rw [e4]
  have q := V4
  refine ⟨b1, k1, _, rfl, N4, KK4, sz_b1, q, ?_, ?_, Bk1⟩
  all_goals rw [own_t0]
  all_goals have cp := own_cpl (vd := List.replicate nl.toNatClampNeg (Value.int (0 : Int32))) (us := (vs.drop 0).take zl.toNatClampNeg) (p := 0) (n := zl.toNatClampNeg) (by rw [List.length_replicate]; omega) (by simp; omega)
  · rw [cp.1, List.length_replicate]
  · have c2 := cp.2
    rw [Nat.zero_add] at c2 ⊢
    rw [c2, List.take_zero, List.nil_append, List.drop_zero]
    exact List.take_of_length_le (by omega)
theorem d13_0 : decode jdk_68_method_9_code 0 = .ok (.aload_n 0, 1) := by decide +kernel
theorem d13_1 : decode jdk_68_method_9_code 1 = .ok (.getfield 15, 3) := by decide +kernel
theorem d13_4 : decode jdk_68_method_9_code 4 = .ok (.arraylength, 1) := by decide +kernel
theorem d13_5 : decode jdk_68_method_9_code 5 = .ok (.aload_n 0, 1) := by decide +kernel
theorem d13_6 : decode jdk_68_method_9_code 6 = .ok (.getfield 22, 3) := by decide +kernel
theorem d13_9 : decode jdk_68_method_9_code 9 = .ok (.ishr, 1) := by decide +kernel
theorem d13_10 : decode jdk_68_method_9_code 10 = .ok (.istore_n 2, 1) := by decide +kernel
theorem d13_11 : decode jdk_68_method_9_code 11 = .ok (.iload_n 1, 1) := by decide +kernel
theorem d13_12 : decode jdk_68_method_9_code 12 = .ok (.iload_n 2, 1) := by decide +kernel
theorem d13_13 : decode jdk_68_method_9_code 13 = .ok (.isub, 1) := by decide +kernel
theorem d13_14 : decode jdk_68_method_9_code 14 = .ok (.ifCond .le 24, 3) := by decide +kernel
theorem d13_17 : decode jdk_68_method_9_code 17 = .ok (.aload_n 0, 1) := by decide +kernel
theorem d13_18 : decode jdk_68_method_9_code 18 = .ok (.aload_n 0, 1) := by decide +kernel
theorem d13_19 : decode jdk_68_method_9_code 19 = .ok (.getfield 15, 3) := by decide +kernel
theorem d13_22 : decode jdk_68_method_9_code 22 = .ok (.aload_n 0, 1) := by decide +kernel
theorem d13_23 : decode jdk_68_method_9_code 23 = .ok (.iload_n 1, 1) := by decide +kernel
theorem d13_24 : decode jdk_68_method_9_code 24 = .ok (.invokevirtual 104, 3) := by decide +kernel
theorem d13_27 : decode jdk_68_method_9_code 27 = .ok (.aload_n 0, 1) := by decide +kernel
theorem d13_28 : decode jdk_68_method_9_code 28 = .ok (.getfield 22, 3) := by decide +kernel
theorem d13_31 : decode jdk_68_method_9_code 31 = .ok (.ishl, 1) := by decide +kernel
theorem d13_32 : decode jdk_68_method_9_code 32 = .ok (.invokestatic 108, 3) := by decide +kernel
theorem d13_35 : decode jdk_68_method_9_code 35 = .ok (.putfield 15, 3) := by decide +kernel
theorem d13_38 : decode jdk_68_method_9_code 38 = .ok (.return_, 1) := by decide +kernel
theorem pn_13 : plainFor (⟨"java/lang/AbstractStringBuilder", "ensureCapacityInternal", "(I)V"⟩ : MethodName) = true := plainFor_of_name (by first | (simp [plainName, overriddenIn]; done) | decide +kernel)
theorem ef_con_en (m : MethodId) (sb : Addr) (mi : Int32) : entryFrame m #[(.ref sb), (.int mi)] 3 = mkF m 0 #[.val (.ref sb), .val (.int mi), .unset] [] := by first | (simp [entryFrame, mkF, argsToLocals, Value.category]; done) | rfl
theorem pd14 : parseMethodDescriptor "(I)I" = some ⟨[.int], some .int⟩ := by decide +kernel
theorem pd15 : parseMethodDescriptor "([BI)[B" = some ⟨[(.array .byte), .int], some (.array .byte)⟩ := by decide +kernel
set_option maxRecDepth 65536 in
set_option maxHeartbeats 4000000 in
theorem con_en (l : Launch) (Z : State) (a0 : Array Value) (hw : ∀ d ∈ tables_1, d.before a0 Z = true) (sb : Addr) (mi : Int32) (h0 : Heap) (n0 : Nat) (Z0 : n0 ≤ h0.size) (d : Addr) (kd : ClassId) (cap cnt : Int32) (vs : List Value) (bE : Exa Z h0 sb "java/lang/StringBuilder") (bV : Fld Z h0 sb "java/lang/AbstractStringBuilder" "value" "[B" (.ref d)) (bC : Fld Z h0 sb "java/lang/AbstractStringBuilder" "coder" "B" (.int (0 : Int32))) (bN : Fld Z h0 sb "java/lang/AbstractStringBuilder" "count" "I" (.int cnt)) (bA : Arv Z h0 d kd .byte cap vs (.int (0 : Int32))) (hB : own_BA Z kd) (ne_sb_d : sb ≠ d) (ne_d_sb : d ≠ sb) (g_sb : n0 ≤ sb) (g_d : n0 ≤ d) (hcap : 0 ≤ cap.toInt ∧ cap.toInt ≤ 80) (hlen : vs.length = cap.toNatClampNeg) (hmi : 0 ≤ mi.toInt ∧ mi.toInt ≤ 162) :
    own_Con l Z (⟨"java/lang/AbstractStringBuilder", "ensureCapacityInternal", "(I)V"⟩ : MethodName) jdk_68_method_9_code 3 none ({ frames := 3, cells := 1, slots := 170, locals := 51 } : Room) #[(.ref sb), (.int mi)] h0 (fun v h L => ∃ (d' : Addr) (kd' : ClassId) (cap' : Int32) (us : List Value), v = none ∧ Fr n0 L ∧ Keep h0 h [sb] ∧ (d' = d ∨ h0.size ≤ d') ∧ n0 ≤ d' ∧ sb ≠ d' ∧ Exa Z h sb "java/lang/StringBuilder" ∧ Fld Z h sb "java/lang/AbstractStringBuilder" "value" "[B" (.ref d') ∧ Fld Z h sb "java/lang/AbstractStringBuilder" "coder" "B" (.int (0 : Int32)) ∧ Fld Z h sb "java/lang/AbstractStringBuilder" "count" "I" (.int cnt) ∧ Arv Z h d' kd' .byte cap' us (.int (0 : Int32)) ∧ own_BA Z kd' ∧ us.length = cap'.toNatClampNeg ∧ cap'.toInt = own_cap cap.toInt mi.toInt ∧ us.take cap.toNatClampNeg = vs) := by
  refine own_Con_of pn_13 ?_
  intro p e s m below meth c s₁ X0 hx hby hml hret hlk hnm hown hZ e0
  have hown : s.vm.findClass "java/lang/AbstractStringBuilder" = some m.cls := hown
  have hml : c.maxLocals = 3 := hml
  have N0 := Fr.nil n0
  show own_WP _ _ _ _ _ _ _ (s₁.setTop (entryFrame m #[(.ref sb), (.int mi)] 3))
  rw [ef_con_en m sb mi]
  refine own_aloadN (pc' := 1) X0 hx (hb hby d13_0) rfl rfl rfl ?_
  refine own_getF (pc' := 4) X0 hx hZ hown (host := "") (Or.inl (own_w hw 58 rfl)) Via.refl e0 bV (hb hby d13_1) rfl ?_
  intro T1 X1 e1
  refine own_arrlen (pc' := 5) X1 hx hZ e1 bA (hb hby d13_4) rfl ?_
  refine own_aloadN (pc' := 6) X1 hx (hb hby d13_5) rfl rfl rfl ?_
  refine own_getF (pc' := 9) X1 hx hZ hown (host := "") (Or.inl (own_w hw 60 rfl)) Via.refl e1 bC (hb hby d13_6) rfl ?_
  intro T2 X2 e2
  refine own_ishr (pc' := 10) X2 hx (hb hby d13_9) rfl ?_
  obtain ⟨v3, hv3⟩ : ∃ z : Int32, z = (cap >>> ((0 : Int32) &&& 31)) := ⟨_, rfl⟩
  refine own_istoreN (pc' := 11) (l' := #[.val (.ref sb), .val (.int mi), .val (.int v3)]) X2 hx (hb hby d13_10) hv3 rfl rfl ?_
  refine own_iloadN (pc' := 12) X2 hx (hb hby d13_11) rfl rfl ?_
  refine own_iloadN (pc' := 13) X2 hx (hb hby d13_12) rfl rfl ?_
  refine own_isub (pc' := 14) X2 hx (hb hby d13_13) rfl ?_
  have hsub : ((mi - v3)).toInt = mi.toInt - cap.toInt := by rw [own_sub (a := mi) (b := cap) (by rw [hv3, own_shr0]) (by omega) (by omega)]
  refine own_if_le (pt := 38) (pf := 17) X2 hx (hb hby d13_14) rfl (by decide) rfl (fun hc14 => ?_) (fun hc14 => ?_)
  · skip
    refine own_ret0 X2 hx (fun _ _ _ _ q => q) hlk hret (hb hby d13_38) (by decide) (by decide) ?_
    rw [e2]
    rw [Int32.lt_iff_toInt_lt, hsub] at hc14
    have hc14 : ¬ (0 : Int) < mi.toInt - cap.toInt := hc14
    exact ⟨d, kd, cap, vs, rfl, N0, (Keep.refl h0 [sb]), Or.inl rfl, g_d, ne_sb_d, bE, bV, bC, bN, bA, hB, hlen, by unfold own_cap; rw [if_pos (by omega)], List.take_of_length_le (by omega)⟩
  · skip
    rw [Int32.lt_iff_toInt_lt, hsub] at hc14
    have hgt : (0 : Int) < mi.toInt - cap.toInt := hc14
    refine own_aloadN (pc' := 18) X2 hx (hb hby d13_17) rfl rfl rfl ?_
    refine own_aloadN (pc' := 19) X2 hx (hb hby d13_18) rfl rfl rfl ?_
    refine own_getF (pc' := 22) X2 hx hZ hown (host := "") (Or.inl (own_w hw 58 rfl)) Via.refl e2 bV (hb hby d13_19) rfl ?_
    intro T4 X4 e4
    refine own_aloadN (pc' := 23) X4 hx (hb hby d13_22) rfl rfl rfl ?_
    refine own_iloadN (pc' := 24) X4 hx (hb hby d13_23) rfl rfl ?_
    refine own_callP (pc' := 27) (W := 2) (y := (⟨"java/lang/AbstractStringBuilder", "newCapacity", "(I)I"⟩ : MethodName)) X4 hx hZ hown (own_w hw 258 rfl) (own_w hw 259 rfl) (own_w hw 260 rfl) (own_w hw 261 rfl) (own_w hw 54 rfl) (own_w hw 262 rfl) (by decide) bE (con_nc l Z a0 hw sb mi _ n0 Z0 d kd cap cnt vs bE bV bC bN bA hB (by omega) (by omega)) e4 pd14 [(.int mi)] [(.ref d), (.ref sb)] rfl rfl rfl (Nat.le_of_eq rfl) (by decide) (by decide) (by rw [hml]; rfl) (hb hby d13_24) (by decide) (by decide) rfl ?_
    intro v5 T5 L5 X5 q5
    obtain ⟨r5, rfl, hr5, rfl, e5⟩ := q5
    have M5 := Fr.nil n0
    have N5 := Fr.app N0 M5
    have hnl : r5.toInt = max mi.toInt (2 * cap.toInt + 2) := hr5
    show own_WP _ _ _ _ _ _ _ (T5.setTop (mkF m 27 #[.val (.ref sb), .val (.int mi), .val (.int v3)] [(.int r5), (.ref d), (.ref sb)]))
    refine own_aloadN (pc' := 28) X5 hx (hb hby d13_27) rfl rfl rfl ?_
    refine own_getF (pc' := 31) X5 hx hZ hown (host := "") (Or.inl (own_w hw 60 rfl)) Via.refl e5 bC (hb hby d13_28) rfl ?_
    intro T6 X6 e6
    refine own_ishl (pc' := 32) X6 hx (hb hby d13_31) rfl ?_
    obtain ⟨nl, hnl0⟩ : ∃ z : Int32, z = (r5 <<< ((0 : Int32) &&& 31)) := ⟨_, rfl⟩
    rw [← hnl0]
    rw [own_shl0] at hnl0
    have hnl1 : nl.toInt = max mi.toInt (2 * cap.toInt + 2) := by rw [hnl0]; exact hnl
    refine own_callS (pc' := 35) (W := 1) (y := (⟨"java/util/Arrays", "copyOf", "([BI)[B"⟩ : MethodName)) X6 hx hZ hown (own_w hw 273 rfl) (own_w hw 274 rfl) (own_w hw 165 rfl) (own_w hw 275 rfl) (by decide) (con_co l Z a0 hw d nl _ n0 Z0 _ cap vs bA (by omega) hlen) e6 pd15 [(.ref d), (.int nl)] [(.ref sb)] rfl rfl rfl (Nat.le_of_eq rfl) (by decide) (by decide) (by rw [hml]; rfl) (hb hby d13_32) (by decide) (by decide) rfl ?_
    intro v7 T7 L7 X7 q7
    obtain ⟨c7, k7, u7, rfl, M7, K7, s7, V7, lu7, tu7, Bk7⟩ := q7
    have ne_sb_c7 : sb ≠ c7 := Nat.ne_of_lt (Nat.lt_of_lt_of_le bE.lt s7)
    have ne_c7_sb := ne_sb_c7.symm
    have g_c7 : n0 ≤ c7 := Nat.le_trans Z0 s7
    have sz_c7 : h0.size ≤ c7 := Nat.le_trans (Keep.refl h0 [sb]).1 s7
    obtain ⟨h7, e7⟩ : ∃ z, z = T7.heap := ⟨_, rfl⟩
    rw [← e7] at K7 V7
    have e7 := e7.symm
    have KK7 : Keep h0 h7 [sb] := (Keep.refl h0 [sb]).trans K7 all0
    have N7 := Fr.app N5 M7
    show own_WP _ _ _ _ _ _ _ (T7.setTop (mkF m 35 #[.val (.ref sb), .val (.int mi), .val (.int v3)] [(.ref c7), (.ref sb)]))
    have f8 := (bV.keep K7 nin0)
    have f9 := (bE.keep K7)
    refine own_putF (pc' := 38) X7 hx hZ hown (host := "") (Or.inl (own_w hw 58 rfl)) Via.refl e7 f8 f9 (Or.inl (own_w hw 59 rfl)) (own_w hw 45 rfl) (ty := (.array .byte)) (by decide +kernel) rfl rfl (hb hby d13_35) rfl ?_
    intro T10 h10 X10 e10 W10
    have Fw10 := f8.same W10
    have N10 := Fr.snoc X10 N7 g_sb
    have K10 : Keep h0 h10 [sb] := KK7.wr W10 (Or.inl (List.mem_of_getElem? (i := 0) rfl))
    have f11 := (f9.wr W10)
    have f12 := ((bC.keep K7 nin0).other W10 (Or.inr (slot_ne (Or.inl (own_w hw 61 rfl)) (Or.inl (own_w hw 59 rfl)) (by decide) (t := .byte) (t' := (.array .byte)) (by decide +kernel) (by decide +kernel))))
    have f13 := ((bN.keep K7 nin0).other W10 (Or.inr (slot_ne (Or.inl (own_w hw 85 rfl)) (Or.inl (own_w hw 59 rfl)) (by decide) (t := .int) (t' := (.array .byte)) (by decide +kernel) (by decide +kernel))))
    have f14 := (V7.other W10 ne_c7_sb)
    refine own_ret0 X10 hx (fun _ _ _ _ q => q) hlk hret (hb hby d13_38) (by decide) (by decide) ?_
    rw [e10]
    exact ⟨c7, k7, nl, u7, rfl, N10, K10, Or.inr sz_c7, g_c7, ne_sb_c7, f11, Fw10, f12, f13, f14, Bk7, lu7, by unfold own_cap; rw [if_neg (by omega)]; exact hnl1, tu7⟩
theorem d15_0 : decode jdk_68_method_71_code 0 = .ok (.getstatic 18, 3) := by decide +kernel
theorem d15_3 : decode jdk_68_method_71_code 3 = .ok (.ifCond .eq 18, 3) := by decide +kernel
theorem d15_6 : decode jdk_68_method_71_code 6 = .ok (.aload_n 0, 1) := by decide +kernel
theorem d15_7 : decode jdk_68_method_71_code 7 = .ok (.getfield 22, 3) := by decide +kernel
theorem d15_10 : decode jdk_68_method_71_code 10 = .ok (.aload_n 1, 1) := by decide +kernel
theorem d15_11 : decode jdk_68_method_71_code 11 = .ok (.invokevirtual 40, 3) := by decide +kernel
theorem d15_14 : decode jdk_68_method_71_code 14 = .ok (.if_icmp .eq 7, 3) := by decide +kernel
theorem d15_21 : decode jdk_68_method_71_code 21 = .ok (.return_, 1) := by decide +kernel
theorem pn_15 : plainFor (⟨"java/lang/AbstractStringBuilder", "inflateIfNeededFor", "(Ljava/lang/String;)V"⟩ : MethodName) = true := plainFor_of_name (by first | (simp [plainName, overriddenIn]; done) | decide +kernel)
theorem ef_con_in (m : MethodId) (sb : Addr) (a : Addr) : entryFrame m #[(.ref sb), (.ref a)] 2 = mkF m 0 #[.val (.ref sb), .val (.ref a)] [] := by first | (simp [entryFrame, mkF, argsToLocals, Value.category]; done) | rfl
set_option maxRecDepth 65536 in
set_option maxHeartbeats 4000000 in
theorem con_in (l : Launch) (Z : State) (a0 : Array Value) (hw : ∀ d ∈ tables_1, d.before a0 Z = true) (sb : Addr) (a : Addr) (h0 : Heap) (n0 : Nat) (Z0 : n0 ≤ h0.size) (G1 : Int32) (fm : Value) (hG : own_G Z G1 fm) (X00 : own_Old Z n0 h0) (d : Addr) (kd : ClassId) (cap cnt : Int32) (vs : List Value) (bE : Exa Z h0 sb "java/lang/StringBuilder") (bV : Fld Z h0 sb "java/lang/AbstractStringBuilder" "value" "[B" (.ref d)) (bC : Fld Z h0 sb "java/lang/AbstractStringBuilder" "coder" "B" (.int (0 : Int32))) (bN : Fld Z h0 sb "java/lang/AbstractStringBuilder" "count" "I" (.int cnt)) (bA : Arv Z h0 d kd .byte cap vs (.int (0 : Int32))) (hB : own_BA Z kd) (b : Addr) (kb : ClassId) (zl : Int32) (ws : List Value) (hE : Exa Z h0 a "java/lang/String") (hC : Fld Z h0 a "java/lang/String" "coder" "B" (.int (0 : Int32))) (hV : Fld Z h0 a "java/lang/String" "value" "[B" (.ref b)) (hA : Arv Z h0 b kb .byte zl ws (.int (0 : Int32))) :
    own_Con l Z (⟨"java/lang/AbstractStringBuilder", "inflateIfNeededFor", "(Ljava/lang/String;)V"⟩ : MethodName) jdk_68_method_71_code 2 none ({ frames := 1, cells := 0, slots := 0, locals := 13 } : Room) #[(.ref sb), (.ref a)] h0 (fun v h L => v = none ∧ L = [] ∧ h = h0) := by
  refine own_Con_of pn_15 ?_
  intro p e s m below meth c s₁ X0 hx hby hml hret hlk hnm hown hZ e0
  have hown : s.vm.findClass "java/lang/AbstractStringBuilder" = some m.cls := hown
  have hml : c.maxLocals = 2 := hml
  show own_WP _ _ _ _ _ _ _ (s₁.setTop (entryFrame m #[(.ref sb), (.ref a)] 2))
  rw [ef_con_in m sb a]
  refine own_getS (pc' := 3) X0 hx hZ hown (host := "") (Or.inl (own_w hw 57 rfl)) Via.refl e0 (hG.1.ext X00.x) (hb hby d15_0) rfl ?_
  intro T1 X1 e1
  refine own_if_eq (pt := 21) (pf := 6) X1 hx (hb hby d15_3) rfl (by decide) rfl (fun hc3 => absurd hc3 (hG.2.1)) (fun hc3 => ?_)
  refine own_aloadN (pc' := 7) X1 hx (hb hby d15_6) rfl rfl rfl ?_
  refine own_getF (pc' := 10) X1 hx hZ hown (host := "") (Or.inl (own_w hw 60 rfl)) Via.refl e1 bC (hb hby d15_7) rfl ?_
  intro T2 X2 e2
  refine own_aloadN (pc' := 11) X2 hx (hb hby d15_10) rfl rfl rfl ?_
  refine own_callV (pc' := 14) (W := 1) (y := (⟨"java/lang/String", "coder", "()B"⟩ : MethodName)) (z := (⟨"java/lang/String", "coder", "()B"⟩ : MethodName)) X2 hx hZ hown (own_w hw 101 rfl) (own_w hw 79 rfl) (notFace_of_selects (args := #[]) (mvT hZ (own_w hw 81 rfl))) (own_w hw 81 rfl) (own_w hw 80 rfl) (own_w hw 3 rfl) (own_w hw 82 rfl) (by decide) hE (con_coder l Z a0 hw a _ n0 Z0 G1 fm hG X00 hC) e2 pd0 [] [(.int (0 : Int32))] rfl rfl rfl (Nat.le_of_eq rfl) (by decide) (by decide) (by rw [hml]; rfl) (hb hby d15_11) (by decide) (by decide) rfl ?_
  intro v3 T3 L3 X3 q3
  obtain ⟨r3, rfl, hr3, rfl, e3⟩ := q3
  show own_WP _ _ _ _ _ _ _ (T3.setTop (mkF m 14 #[.val (.ref sb), .val (.ref a)] [(.int r3), (.int (0 : Int32))]))
  refine own_icmp_eq (pt := 21) (pf := 17) X3 hx (hb hby d15_14) rfl (by decide) rfl (fun hc14 => ?_) (fun hc14 => absurd (hr3.symm) hc14)
  refine own_ret0 X3 hx (fun _ _ _ _ q => q) hlk hret (hb hby d15_21) (by decide) (by decide) ?_
  exact ⟨rfl, rfl, e3⟩
theorem d16_0 : decode jdk_42_method_147_code 0 = .ok (.aload_n 0, 1) := by decide +kernel
theorem d16_1 : decode jdk_42_method_147_code 1 = .ok (.invokevirtual 335, 3) := by decide +kernel
theorem d16_4 : decode jdk_42_method_147_code 4 = .ok (.iload_n 3, 1) := by decide +kernel
theorem d16_5 : decode jdk_42_method_147_code 5 = .ok (.if_icmp .ne 23, 3) := by decide +kernel
theorem d16_8 : decode jdk_42_method_147_code 8 = .ok (.aload_n 0, 1) := by decide +kernel
theorem d16_9 : decode jdk_42_method_147_code 9 = .ok (.getfield 9, 3) := by decide +kernel
theorem d16_12 : decode jdk_42_method_147_code 12 = .ok (.iconst 0, 1) := by decide +kernel
theorem d16_13 : decode jdk_42_method_147_code 13 = .ok (.aload_n 1, 1) := by decide +kernel
theorem d16_14 : decode jdk_42_method_147_code 14 = .ok (.iload_n 2, 1) := by decide +kernel
theorem d16_15 : decode jdk_42_method_147_code 15 = .ok (.iload_n 3, 1) := by decide +kernel
theorem d16_16 : decode jdk_42_method_147_code 16 = .ok (.ishl, 1) := by decide +kernel
theorem d16_17 : decode jdk_42_method_147_code 17 = .ok (.aload_n 0, 1) := by decide +kernel
theorem d16_18 : decode jdk_42_method_147_code 18 = .ok (.getfield 9, 3) := by decide +kernel
theorem d16_21 : decode jdk_42_method_147_code 21 = .ok (.arraylength, 1) := by decide +kernel
theorem d16_22 : decode jdk_42_method_147_code 22 = .ok (.invokestatic 212, 3) := by decide +kernel
theorem d16_25 : decode jdk_42_method_147_code 25 = .ok (.goto 18, 3) := by decide +kernel
theorem d16_43 : decode jdk_42_method_147_code 43 = .ok (.return_, 1) := by decide +kernel
theorem pn_16 : plainFor (⟨"java/lang/String", "getBytes", "([BIB)V"⟩ : MethodName) = true := plainFor_of_name (by first | (simp [plainName, overriddenIn]; done) | decide +kernel)
theorem ef_con_gb (m : MethodId) (a : Addr) (d : Addr) (pos : Int32) : entryFrame m #[(.ref a), (.ref d), (.int pos), (.int (0 : Int32))] 4 = mkF m 0 #[.val (.ref a), .val (.ref d), .val (.int pos), .val (.int (0 : Int32))] [] := by first | (simp [entryFrame, mkF, argsToLocals, Value.category]; done) | rfl
set_option maxRecDepth 65536 in
set_option maxHeartbeats 4000000 in
theorem con_gb (l : Launch) (Z : State) (a0 : Array Value) (hw : ∀ d ∈ tables_1, d.before a0 Z = true) (a : Addr) (d : Addr) (pos : Int32) (h0 : Heap) (n0 : Nat) (Z0 : n0 ≤ h0.size) (G1 : Int32) (fm : Value) (hG : own_G Z G1 fm) (X00 : own_Old Z n0 h0) (b : Addr) (kb : ClassId) (zl : Int32) (ws : List Value) (hE : Exa Z h0 a "java/lang/String") (hC : Fld Z h0 a "java/lang/String" "coder" "B" (.int (0 : Int32))) (hV : Fld Z h0 a "java/lang/String" "value" "[B" (.ref b)) (hA : Arv Z h0 b kb .byte zl ws (.int (0 : Int32))) (kd : ClassId) (cap : Int32) (vs : List Value) (bA : Arv Z h0 d kd .byte cap vs (.int (0 : Int32))) (hlen : vs.length = cap.toNatClampNeg) (hws : ws.length = zl.toNatClampNeg) (hpos : 0 ≤ pos.toInt ∧ 0 ≤ zl.toInt ∧ pos.toInt + zl.toInt ≤ cap.toInt ∧ cap.toInt ≤ 1000) (ne_b_d : b ≠ d) (g_d : n0 ≤ d) :
    own_Con l Z (⟨"java/lang/String", "getBytes", "([BIB)V"⟩ : MethodName) jdk_42_method_147_code 4 none ({ frames := 1, cells := 0, slots := 0, locals := 32 } : Room) #[(.ref a), (.ref d), (.int pos), (.int (0 : Int32))] h0 (fun v h L => ∃ us : List Value, v = none ∧ Fr n0 L ∧ Keep h0 h [d] ∧ Arv Z h d kd .byte cap us (.int (0 : Int32)) ∧ us.length = vs.length ∧ us.take (pos.toNatClampNeg + zl.toNatClampNeg) = vs.take pos.toNatClampNeg ++ ws) := by
  refine own_Con_of pn_16 ?_
  intro p e s m below meth c s₁ X0 hx hby hml hret hlk hnm hown hZ e0
  have hown : s.vm.findClass "java/lang/String" = some m.cls := hown
  have hml : c.maxLocals = 4 := hml
  have N0 := Fr.nil n0
  show own_WP _ _ _ _ _ _ _ (s₁.setTop (entryFrame m #[(.ref a), (.ref d), (.int pos), (.int (0 : Int32))] 4))
  rw [ef_con_gb m a d pos]
  refine own_aloadN (pc' := 1) X0 hx (hb hby d16_0) rfl rfl rfl ?_
  refine own_callV (pc' := 4) (W := 0) (y := (⟨"java/lang/String", "coder", "()B"⟩ : MethodName)) (z := (⟨"java/lang/String", "coder", "()B"⟩ : MethodName)) X0 hx hZ hown (own_w hw 78 rfl) (own_w hw 79 rfl) (notFace_of_selects (args := #[]) (mvT hZ (own_w hw 81 rfl))) (own_w hw 81 rfl) (own_w hw 80 rfl) (own_w hw 3 rfl) (own_w hw 82 rfl) (by decide) hE (con_coder l Z a0 hw a _ n0 Z0 G1 fm hG X00 hC) e0 pd0 [] [] rfl rfl rfl (Nat.le_of_eq rfl) (by decide) (by decide) (by rw [hml]; rfl) (hb hby d16_1) (by decide) (by decide) rfl ?_
  intro v1 T1 L1 X1 q1
  obtain ⟨r1, rfl, hr1, rfl, e1⟩ := q1
  have N1 := Fr.app N0 (Fr.nil n0)
  show own_WP _ _ _ _ _ _ _ (T1.setTop (mkF m 4 #[.val (.ref a), .val (.ref d), .val (.int pos), .val (.int (0 : Int32))] [(.int r1)]))
  refine own_iloadN (pc' := 5) X1 hx (hb hby d16_4) rfl rfl ?_
  refine own_icmp_ne (pt := 28) (pf := 8) X1 hx (hb hby d16_5) rfl (by decide) rfl (fun hc5 => absurd (hr1) hc5) (fun hc5 => ?_)
  refine own_aloadN (pc' := 9) X1 hx (hb hby d16_8) rfl rfl rfl ?_
  refine own_getF (pc' := 12) X1 hx hZ hown (host := "") (Or.inl (own_w hw 21 rfl)) Via.refl e1 hV (hb hby d16_9) rfl ?_
  intro T2 X2 e2
  refine own_iconst (pc' := 13) X2 hx (0 : Int32) (hb hby d16_12) rfl rfl ?_
  refine own_aloadN (pc' := 14) X2 hx (hb hby d16_13) rfl rfl rfl ?_
  refine own_iloadN (pc' := 15) X2 hx (hb hby d16_14) rfl rfl ?_
  refine own_iloadN (pc' := 16) X2 hx (hb hby d16_15) rfl rfl ?_
  refine own_ishl (pc' := 17) X2 hx (hb hby d16_16) rfl ?_
  refine own_aloadN (pc' := 18) X2 hx (hb hby d16_17) rfl rfl rfl ?_
  refine own_getF (pc' := 21) X2 hx hZ hown (host := "") (Or.inl (own_w hw 21 rfl)) Via.refl e2 hV (hb hby d16_18) rfl ?_
  intro T3 X3 e3
  refine own_arrlen (pc' := 22) X3 hx hZ e3 hA (hb hby d16_21) rfl ?_
  have q1 := own_nat (x := zl) (by omega)
  have q2 := own_nat (x := pos) (by omega)
  have q3 := own_nat (x := cap) (by omega)
  rw [own_shl0]
  refine own_cpA (pc' := 25) (W := 0) (n0 := n0) X3 hx hZ hown (own_w hw 107 rfl) (own_w hw 110 rfl) (own_w hw 108 rfl) (own_w hw 109 rfl) e3 hA bA (by decide) (own_nn (by omega)) (own_nn (by omega)) (by show 0 + _ ≤ _; omega) (by omega) (own_us (by show 0 + _ ≤ _; omega)) (by omega) N1 g_d (by rw [hml]; rfl) (hb hby d16_22) (by decide) (Nat.le_of_eq rfl) (by decide) rfl ?_
  intro T4 h4 L4 X4 e4 N4 K4 V4
  have KK4 : Keep h0 h4 [d] := (Keep.refl h0 [d]).trans K4 (allS (P := fun x => x ∈ [d] ∨ h0.size ≤ x) (Or.inl (List.mem_of_getElem? (i := 0) rfl)) all0)
  refine own_goto (pc' := 43) X4 hx (hb hby d16_25) (by decide) rfl ?_
  refine own_ret0 X4 hx (fun _ _ _ _ q => q) hlk hret (hb hby d16_43) (by decide) (by decide) ?_
  rw [e4]
  have q := V4
  have cp := own_cpl (vd := vs) (us := (ws.drop 0).take zl.toNatClampNeg) (p := pos.toNatClampNeg) (n := zl.toNatClampNeg) (by omega) (by simp; omega)
  have e9 : (ws.drop 0).take zl.toNatClampNeg = ws := by rw [List.drop_zero]; exact List.take_of_length_le (by omega)
  rw [own_t0, e9] at q
  rw [e9] at cp
  exact ⟨_, rfl, N4, KK4, q, cp.1, cp.2⟩
theorem d14_0 : decode jdk_68_method_73_code 0 = .ok (.aload_n 0, 1) := by decide +kernel
theorem d14_1 : decode jdk_68_method_73_code 1 = .ok (.aload_n 2, 1) := by decide +kernel
theorem d14_2 : decode jdk_68_method_73_code 2 = .ok (.invokevirtual 397, 3) := by decide +kernel
theorem d14_5 : decode jdk_68_method_73_code 5 = .ok (.aload_n 2, 1) := by decide +kernel
theorem d14_6 : decode jdk_68_method_73_code 6 = .ok (.aload_n 0, 1) := by decide +kernel
theorem d14_7 : decode jdk_68_method_73_code 7 = .ok (.getfield 15, 3) := by decide +kernel
theorem d14_10 : decode jdk_68_method_73_code 10 = .ok (.iload_n 1, 1) := by decide +kernel
theorem d14_11 : decode jdk_68_method_73_code 11 = .ok (.aload_n 0, 1) := by decide +kernel
theorem d14_12 : decode jdk_68_method_73_code 12 = .ok (.getfield 22, 3) := by decide +kernel
theorem d14_15 : decode jdk_68_method_73_code 15 = .ok (.invokevirtual 399, 3) := by decide +kernel
theorem d14_18 : decode jdk_68_method_73_code 18 = .ok (.return_, 1) := by decide +kernel
theorem pn_14 : plainFor (⟨"java/lang/AbstractStringBuilder", "putStringAt", "(ILjava/lang/String;)V"⟩ : MethodName) = true := plainFor_of_name (by first | (simp [plainName, overriddenIn]; done) | decide +kernel)
theorem ef_con_ps (m : MethodId) (sb : Addr) (pos : Int32) (a : Addr) : entryFrame m #[(.ref sb), (.int pos), (.ref a)] 3 = mkF m 0 #[.val (.ref sb), .val (.int pos), .val (.ref a)] [] := by first | (simp [entryFrame, mkF, argsToLocals, Value.category]; done) | rfl
theorem pd16 : parseMethodDescriptor "(Ljava/lang/String;)V" = some ⟨[(.object "java/lang/String")], none⟩ := by decide +kernel
theorem pd17 : parseMethodDescriptor "([BIB)V" = some ⟨[(.array .byte), .int, .byte], none⟩ := by decide +kernel
set_option maxRecDepth 65536 in
set_option maxHeartbeats 4000000 in
theorem con_ps (l : Launch) (Z : State) (a0 : Array Value) (hw : ∀ d ∈ tables_1, d.before a0 Z = true) (sb : Addr) (pos : Int32) (a : Addr) (h0 : Heap) (n0 : Nat) (Z0 : n0 ≤ h0.size) (G1 : Int32) (fm : Value) (hG : own_G Z G1 fm) (X00 : own_Old Z n0 h0) (d : Addr) (kd : ClassId) (cap cnt : Int32) (vs : List Value) (bE : Exa Z h0 sb "java/lang/StringBuilder") (bV : Fld Z h0 sb "java/lang/AbstractStringBuilder" "value" "[B" (.ref d)) (bC : Fld Z h0 sb "java/lang/AbstractStringBuilder" "coder" "B" (.int (0 : Int32))) (bN : Fld Z h0 sb "java/lang/AbstractStringBuilder" "count" "I" (.int cnt)) (bA : Arv Z h0 d kd .byte cap vs (.int (0 : Int32))) (hB : own_BA Z kd)(b : Addr) (kb : ClassId) (zl : Int32) (ws : List Value) (hE : Exa Z h0 a "java/lang/String") (hC : Fld Z h0 a "java/lang/String" "coder" "B" (.int (0 : Int32))) (hV : Fld Z h0 a "java/lang/String" "value" "[B" (.ref b)) (hA : Arv Z h0 b kb .byte zl ws (.int (0 : Int32))) (hlen : vs.length = cap.toNatClampNeg) (hws : ws.length = zl.toNatClampNeg) (hpos : 0 ≤ pos.toInt ∧ 0 ≤ zl.toInt ∧ pos.toInt + zl.toInt ≤ cap.toInt ∧ cap.toInt ≤ 1000) (ne_b_d : b ≠ d) (g_d : n0 ≤ d) (ne_sb_d : sb ≠ d) (ne_a_d : a ≠ d) :
    own_Con l Z (⟨"java/lang/AbstractStringBuilder", "putStringAt", "(ILjava/lang/String;)V"⟩ : MethodName) jdk_68_method_73_code 3 none ({ frames := 2, cells := 0, slots := 0, locals := 48 } : Room) #[(.ref sb), (.int pos), (.ref a)] h0 (fun v h L => ∃ us : List Value, v = none ∧ Fr n0 L ∧ Keep h0 h [d] ∧ Exa Z h sb "java/lang/StringBuilder" ∧ Fld Z h sb "java/lang/AbstractStringBuilder" "value" "[B" (.ref d) ∧ Fld Z h sb "java/lang/AbstractStringBuilder" "coder" "B" (.int (0 : Int32)) ∧ Fld Z h sb "java/lang/AbstractStringBuilder" "count" "I" (.int cnt) ∧ Arv Z h d kd .byte cap us (.int (0 : Int32)) ∧ own_BA Z kd ∧ us.length = vs.length ∧ us.take (pos.toNatClampNeg + zl.toNatClampNeg) = vs.take pos.toNatClampNeg ++ ws) := by
  refine own_Con_of pn_14 ?_
  intro p e s m below meth c s₁ X0 hx hby hml hret hlk hnm hown hZ e0
  have hown : s.vm.findClass "java/lang/AbstractStringBuilder" = some m.cls := hown
  have hml : c.maxLocals = 3 := hml
  have N0 := Fr.nil n0
  show own_WP _ _ _ _ _ _ _ (s₁.setTop (entryFrame m #[(.ref sb), (.int pos), (.ref a)] 3))
  rw [ef_con_ps m sb pos a]
  refine own_aloadN (pc' := 1) X0 hx (hb hby d14_0) rfl rfl rfl ?_
  refine own_aloadN (pc' := 2) X0 hx (hb hby d14_1) rfl rfl rfl ?_
  refine own_callP (pc' := 5) (W := 0) (y := (⟨"java/lang/AbstractStringBuilder", "inflateIfNeededFor", "(Ljava/lang/String;)V"⟩ : MethodName)) X0 hx hZ hown (own_w hw 96 rfl) (own_w hw 97 rfl) (own_w hw 98 rfl) (own_w hw 99 rfl) (own_w hw 54 rfl) (own_w hw 100 rfl) (by decide) bE (con_in l Z a0 hw sb a _ n0 Z0 G1 fm hG X00 d kd cap cnt vs bE bV bC bN bA hB b kb zl ws hE hC hV hA) e0 pd16 [(.ref a)] [] rfl rfl rfl (Nat.le_of_eq rfl) (by decide) (by decide) (by rw [hml]; rfl) (hb hby d14_2) (by decide) (by decide) rfl ?_
  intro v1 T1 L1 X1 q1
  obtain ⟨rfl, rfl, e1⟩ := q1
  have M1 := Fr.nil n0
  have N1 := Fr.app N0 M1
  show own_WP _ _ _ _ _ _ _ (T1.setTop (mkF m 5 #[.val (.ref sb), .val (.int pos), .val (.ref a)] []))
  refine own_aloadN (pc' := 6) X1 hx (hb hby d14_5) rfl rfl rfl ?_
  refine own_aloadN (pc' := 7) X1 hx (hb hby d14_6) rfl rfl rfl ?_
  refine own_getF (pc' := 10) X1 hx hZ hown (host := "") (Or.inl (own_w hw 58 rfl)) Via.refl e1 bV (hb hby d14_7) rfl ?_
  intro T2 X2 e2
  refine own_iloadN (pc' := 11) X2 hx (hb hby d14_10) rfl rfl ?_
  refine own_aloadN (pc' := 12) X2 hx (hb hby d14_11) rfl rfl rfl ?_
  refine own_getF (pc' := 15) X2 hx hZ hown (host := "") (Or.inl (own_w hw 60 rfl)) Via.refl e2 bC (hb hby d14_12) rfl ?_
  intro T3 X3 e3
  refine own_callV (pc' := 18) (W := 0) (y := (⟨"java/lang/String", "getBytes", "([BIB)V"⟩ : MethodName)) (z := (⟨"java/lang/String", "getBytes", "([BIB)V"⟩ : MethodName)) X3 hx hZ hown (own_w hw 102 rfl) (own_w hw 103 rfl) (notFace_of_selects (args := #[]) (mvT hZ (own_w hw 105 rfl))) (own_w hw 105 rfl) (own_w hw 104 rfl) (own_w hw 3 rfl) (own_w hw 106 rfl) (by decide) hE (con_gb l Z a0 hw a d pos _ n0 Z0 G1 fm hG X00 b kb zl ws hE hC hV hA kd cap vs bA hlen hws hpos ne_b_d g_d) e3 pd17 [(.ref d), (.int pos), (.int (0 : Int32))] [] rfl rfl rfl (Nat.le_of_eq rfl) (by decide) (by decide) (by rw [hml]; rfl) (hb hby d14_15) (by decide) (by decide) rfl ?_
  intro v4 T4 L4 X4 q4
  obtain ⟨u4, rfl, M4, K4, V4, lu4, tu4⟩ := q4
  obtain ⟨h4, e4⟩ : ∃ z, z = T4.heap := ⟨_, rfl⟩
  rw [← e4] at K4 V4
  have e4 := e4.symm
  have KK4 : Keep h0 h4 [d] := (Keep.refl h0 [d]).trans K4 (allS (P := fun x => x ∈ [d] ∨ h0.size ≤ x) (Or.inl (List.mem_of_getElem? (i := 0) rfl)) all0)
  have N4 := Fr.app N1 M4
  show own_WP _ _ _ _ _ _ _ (T4.setTop (mkF m 18 #[.val (.ref sb), .val (.int pos), .val (.ref a)] []))
  have f5 := (bE.keep K4)
  have f6 := (bV.keep K4 (ninS ne_sb_d nin0))
  have f7 := (bC.keep K4 (ninS ne_sb_d nin0))
  have f8 := (bN.keep K4 (ninS ne_sb_d nin0))
  refine own_ret0 X4 hx (fun _ _ _ _ q => q) hlk hret (hb hby d14_18) (by decide) (by decide) ?_
  rw [e4]
  exact ⟨u4, rfl, N4, KK4, f5, f6, f7, f8, V4, hB, lu4, tu4⟩
theorem d10_0 : decode jdk_68_method_22_code 0 = .ok (.aload_n 1, 1) := by decide +kernel
theorem d10_1 : decode jdk_68_method_22_code 1 = .ok (.ifnonnull 8, 3) := by decide +kernel
theorem d10_9 : decode jdk_68_method_22_code 9 = .ok (.aload_n 1, 1) := by decide +kernel
theorem d10_10 : decode jdk_68_method_22_code 10 = .ok (.invokevirtual 32, 3) := by decide +kernel
theorem d10_13 : decode jdk_68_method_22_code 13 = .ok (.istore_n 2, 1) := by decide +kernel
theorem d10_14 : decode jdk_68_method_22_code 14 = .ok (.aload_n 0, 1) := by decide +kernel
theorem d10_15 : decode jdk_68_method_22_code 15 = .ok (.aload_n 0, 1) := by decide +kernel
theorem d10_16 : decode jdk_68_method_22_code 16 = .ok (.getfield 79, 3) := by decide +kernel
theorem d10_19 : decode jdk_68_method_22_code 19 = .ok (.iload_n 2, 1) := by decide +kernel
theorem d10_20 : decode jdk_68_method_22_code 20 = .ok (.iadd, 1) := by decide +kernel
theorem d10_21 : decode jdk_68_method_22_code 21 = .ok (.invokevirtual 100, 3) := by decide +kernel
theorem d10_24 : decode jdk_68_method_22_code 24 = .ok (.aload_n 0, 1) := by decide +kernel
theorem d10_25 : decode jdk_68_method_22_code 25 = .ok (.aload_n 0, 1) := by decide +kernel
theorem d10_26 : decode jdk_68_method_22_code 26 = .ok (.getfield 79, 3) := by decide +kernel
theorem d10_29 : decode jdk_68_method_22_code 29 = .ok (.aload_n 1, 1) := by decide +kernel
theorem d10_30 : decode jdk_68_method_22_code 30 = .ok (.invokevirtual 208, 3) := by decide +kernel
theorem d10_33 : decode jdk_68_method_22_code 33 = .ok (.aload_n 0, 1) := by decide +kernel
theorem d10_34 : decode jdk_68_method_22_code 34 = .ok (.dup, 1) := by decide +kernel
theorem d10_35 : decode jdk_68_method_22_code 35 = .ok (.getfield 79, 3) := by decide +kernel
theorem d10_38 : decode jdk_68_method_22_code 38 = .ok (.iload_n 2, 1) := by decide +kernel
theorem d10_39 : decode jdk_68_method_22_code 39 = .ok (.iadd, 1) := by decide +kernel
theorem d10_40 : decode jdk_68_method_22_code 40 = .ok (.putfield 79, 3) := by decide +kernel
theorem d10_43 : decode jdk_68_method_22_code 43 = .ok (.aload_n 0, 1) := by decide +kernel
theorem d10_44 : decode jdk_68_method_22_code 44 = .ok (.areturn, 1) := by decide +kernel
theorem pn_10 : plainFor (⟨"java/lang/AbstractStringBuilder", "append", "(Ljava/lang/String;)Ljava/lang/AbstractStringBuilder;"⟩ : MethodName) = true := plainFor_of_name (by first | (simp [plainName, overriddenIn]; done) | decide +kernel)
theorem ef_con_as (m : MethodId) (sb : Addr) (a : Addr) : entryFrame m #[(.ref sb), (.ref a)] 3 = mkF m 0 #[.val (.ref sb), .val (.ref a), .unset] [] := by first | (simp [entryFrame, mkF, argsToLocals, Value.category]; done) | rfl
theorem pd18 : parseMethodDescriptor "()I" = some ⟨[], some .int⟩ := by decide +kernel
theorem pd19 : parseMethodDescriptor "(I)V" = some ⟨[.int], none⟩ := by decide +kernel
theorem pd20 : parseMethodDescriptor "(ILjava/lang/String;)V" = some ⟨[.int, (.object "java/lang/String")], none⟩ := by decide +kernel
set_option maxRecDepth 65536 in
set_option maxHeartbeats 4000000 in
theorem con_as (l : Launch) (Z : State) (a0 : Array Value) (hw : ∀ d ∈ tables_1, d.before a0 Z = true) (sb : Addr) (a : Addr) (h0 : Heap) (n0 : Nat) (Z0 : n0 ≤ h0.size) (G1 : Int32) (fm : Value) (hG : own_G Z G1 fm) (X00 : own_Old Z n0 h0) (d : Addr) (kd : ClassId) (cap cnt : Int32) (vs : List Value) (bE : Exa Z h0 sb "java/lang/StringBuilder") (bV : Fld Z h0 sb "java/lang/AbstractStringBuilder" "value" "[B" (.ref d)) (bC : Fld Z h0 sb "java/lang/AbstractStringBuilder" "coder" "B" (.int (0 : Int32))) (bN : Fld Z h0 sb "java/lang/AbstractStringBuilder" "count" "I" (.int cnt)) (bA : Arv Z h0 d kd .byte cap vs (.int (0 : Int32))) (hB : own_BA Z kd)(b : Addr) (kb : ClassId) (zl : Int32) (ws : List Value) (hE : Exa Z h0 a "java/lang/String") (hC : Fld Z h0 a "java/lang/String" "coder" "B" (.int (0 : Int32))) (hV : Fld Z h0 a "java/lang/String" "value" "[B" (.ref b)) (hA : Arv Z h0 b kb .byte zl ws (.int (0 : Int32))) (ne_sb_d : sb ≠ d) (ne_d_sb : d ≠ sb) (g_sb : n0 ≤ sb) (g_d : n0 ≤ d) (hcap : 0 ≤ cnt.toInt ∧ cnt.toInt ≤ cap.toInt ∧ cap.toInt ≤ 80) (hlen : vs.length = cap.toNatClampNeg) (hws : ws.length = zl.toNatClampNeg) (hzl : 0 ≤ zl.toInt ∧ zl.toInt ≤ 40) (ne_a_d : a ≠ d) (ne_b_d : b ≠ d) (ne_a_sb : a ≠ sb) (ne_b_sb : b ≠ sb) (ne_sb_a : sb ≠ a) :
    own_Con l Z (⟨"java/lang/AbstractStringBuilder", "append", "(Ljava/lang/String;)Ljava/lang/AbstractStringBuilder;"⟩ : MethodName) jdk_68_method_22_code 3 (some (.object "java/lang/AbstractStringBuilder")) ({ frames := 4, cells := 1, slots := 170, locals := 67 } : Room) #[(.ref sb), (.ref a)] h0 (fun v h L => ∃ (d' : Addr) (kd' : ClassId) (cap' cnt' : Int32) (us : List Value), v = some (.ref sb) ∧ Fr n0 L ∧ Keep h0 h [sb, d] ∧ (d' = d ∨ h0.size ≤ d') ∧ n0 ≤ d' ∧ sb ≠ d' ∧ Exa Z h sb "java/lang/StringBuilder" ∧ Fld Z h sb "java/lang/AbstractStringBuilder" "value" "[B" (.ref d') ∧ Fld Z h sb "java/lang/AbstractStringBuilder" "coder" "B" (.int (0 : Int32)) ∧ Fld Z h sb "java/lang/AbstractStringBuilder" "count" "I" (.int cnt') ∧ Arv Z h d' kd' .byte cap' us (.int (0 : Int32)) ∧ own_BA Z kd' ∧ us.length = cap'.toNatClampNeg ∧ cap'.toInt = own_cap cap.toInt (cnt.toInt + zl.toInt) ∧ cnt'.toInt = cnt.toInt + zl.toInt ∧ us.take (cnt.toNatClampNeg + zl.toNatClampNeg) = vs.take cnt.toNatClampNeg ++ ws) := by
  refine own_Con_of pn_10 ?_
  intro p e s m below meth c s₁ X0 hx hby hml hret hlk hnm hown hZ e0
  have hown : s.vm.findClass "java/lang/AbstractStringBuilder" = some m.cls := hown
  have hml : c.maxLocals = 3 := hml
  have N0 := Fr.nil n0
  show own_WP _ _ _ _ _ _ _ (s₁.setTop (entryFrame m #[(.ref sb), (.ref a)] 3))
  rw [ef_con_as m sb a]
  refine own_aloadN (pc' := 1) X0 hx (hb hby d10_0) rfl rfl rfl ?_
  refine own_nnY (pc' := 9) X0 hx (hb hby d10_1) (by decide) rfl ?_
  refine own_aloadN (pc' := 10) X0 hx (hb hby d10_9) rfl rfl rfl ?_
  refine own_callV (pc' := 13) (W := 0) (y := (⟨"java/lang/String", "length", "()I"⟩ : MethodName)) (z := (⟨"java/lang/String", "length", "()I"⟩ : MethodName)) X0 hx hZ hown (own_w hw 73 rfl) (own_w hw 74 rfl) (notFace_of_selects (args := #[]) (mvT hZ (own_w hw 76 rfl))) (own_w hw 76 rfl) (own_w hw 75 rfl) (own_w hw 3 rfl) (own_w hw 77 rfl) (by decide) hE (con_length l Z a0 hw a _ n0 Z0 G1 fm hG X00 b kb zl ws hE hC hV hA) e0 pd18 [] [] rfl rfl rfl (Nat.le_of_eq rfl) (by decide) (by decide) (by rw [hml]; rfl) (hb hby d10_10) (by decide) (by decide) rfl ?_
  intro v1 T1 L1 X1 q1
  obtain ⟨r1, rfl, hr1, rfl, e1⟩ := q1
  have hr1 := hr1.symm
  subst hr1
  have M1 := Fr.nil n0
  have N1 := Fr.app N0 M1
  show own_WP _ _ _ _ _ _ _ (T1.setTop (mkF m 13 #[.val (.ref sb), .val (.ref a), .unset] [(.int zl)]))
  refine own_istoreN (pc' := 14) (l' := #[.val (.ref sb), .val (.ref a), .val (.int zl)]) X1 hx (hb hby d10_13) rfl rfl rfl ?_
  refine own_aloadN (pc' := 15) X1 hx (hb hby d10_14) rfl rfl rfl ?_
  refine own_aloadN (pc' := 16) X1 hx (hb hby d10_15) rfl rfl rfl ?_
  refine own_getF (pc' := 19) X1 hx hZ hown (host := "") (Or.inl (own_w hw 84 rfl)) Via.refl e1 bN (hb hby d10_16) rfl ?_
  intro T2 X2 e2
  refine own_iloadN (pc' := 20) X2 hx (hb hby d10_19) rfl rfl ?_
  refine own_iadd (pc' := 21) X2 hx (hb hby d10_20) rfl ?_
  obtain ⟨mi, hmi0⟩ : ∃ z : Int32, z = (cnt + zl) := ⟨_, rfl⟩
  rw [← hmi0]
  have hmi : mi.toInt = cnt.toInt + zl.toInt := own_add hmi0 (by omega) (by omega)
  refine own_callP (pc' := 24) (W := 0) (y := (⟨"java/lang/AbstractStringBuilder", "ensureCapacityInternal", "(I)V"⟩ : MethodName)) X2 hx hZ hown (own_w hw 86 rfl) (own_w hw 87 rfl) (own_w hw 88 rfl) (own_w hw 89 rfl) (own_w hw 54 rfl) (own_w hw 90 rfl) (by decide) bE (con_en l Z a0 hw sb mi _ n0 Z0 d kd cap cnt vs bE bV bC bN bA hB ne_sb_d ne_d_sb g_sb g_d (by omega) hlen (by omega)) e2 pd19 [(.int mi)] [] rfl rfl rfl (Nat.le_of_eq rfl) (by decide) (by decide) (by rw [hml]; rfl) (hb hby d10_21) (by decide) (by decide) rfl ?_
  intro v3 T3 L3 X3 q3
  obtain ⟨c3, k3, cp3, u3, rfl, M3, K3, hor3, g_c3, nsb3, E3q, F3a, F3b, F3c, V3, Bk3, lu3, hcp3, tu3⟩ := q3
  have ne_a_c3 : a ≠ c3 := own_ne2 ne_a_d hE.lt hor3
  have ne_b_c3 : b ≠ c3 := own_ne2 ne_b_d hA.lt hor3
  have ne_sb_c3 : sb ≠ c3 := own_ne2 ne_sb_d bE.lt hor3
  have ne_c3_sb := ne_sb_c3.symm
  obtain ⟨h3, e3⟩ : ∃ z, z = T3.heap := ⟨_, rfl⟩
  rw [← e3] at K3 E3q F3a F3b F3c V3
  have e3 := e3.symm
  have o3 : own_Old Z n0 h3 := X00.keep K3 (allS g_sb all0)
  have z3 : n0 ≤ h3.size := Nat.le_trans Z0 K3.1
  have KK3 : Keep h0 h3 [sb, d] := (Keep.refl h0 [sb, d]).trans K3 (allS (P := fun x => x ∈ [sb, d] ∨ h0.size ≤ x) (Or.inl (List.mem_of_getElem? (i := 0) rfl)) all0)
  have N3 := Fr.app N1 M3
  show own_WP _ _ _ _ _ _ _ (T3.setTop (mkF m 24 #[.val (.ref sb), .val (.ref a), .val (.int zl)] []))
  refine own_aloadN (pc' := 25) X3 hx (hb hby d10_24) rfl rfl rfl ?_
  refine own_aloadN (pc' := 26) X3 hx (hb hby d10_25) rfl rfl rfl ?_
  refine own_getF (pc' := 29) X3 hx hZ hown (host := "") (Or.inl (own_w hw 84 rfl)) Via.refl e3 F3c (hb hby d10_26) rfl ?_
  intro T4 X4 e4
  refine own_aloadN (pc' := 30) X4 hx (hb hby d10_29) rfl rfl rfl ?_
  have hcg := own_cap_le (cap := cap.toInt) (mi := mi.toInt) (by omega) (by omega) (by omega)
  have hcq := own_cap_ge (cap := cap.toInt) (mi := mi.toInt)
  have f6 := (hE.keep K3)
  have f7 := (hC.keep K3 (ninS ne_a_sb nin0))
  have f8 := (hV.keep K3 (ninS ne_a_sb nin0))
  have f9 := (hA.keep K3 (ninS ne_b_sb nin0))
  refine own_callP (pc' := 33) (W := 0) (y := (⟨"java/lang/AbstractStringBuilder", "putStringAt", "(ILjava/lang/String;)V"⟩ : MethodName)) X4 hx hZ hown (own_w hw 91 rfl) (own_w hw 92 rfl) (own_w hw 93 rfl) (own_w hw 94 rfl) (own_w hw 54 rfl) (own_w hw 95 rfl) (by decide) E3q (con_ps l Z a0 hw sb cnt a _ n0 z3 G1 fm hG o3 c3 k3 cp3 cnt u3 E3q F3a F3b F3c V3 Bk3 b kb zl ws f6 f7 f8 f9 lu3 hws (by omega) ne_b_c3 g_c3 ne_sb_c3 ne_a_c3) e4 pd20 [(.int cnt), (.ref a)] [] rfl rfl rfl (Nat.le_of_eq rfl) (by decide) (by decide) (by rw [hml]; rfl) (hb hby d10_30) (by decide) (by decide) rfl ?_
  intro v5 T5 L5 X5 q5
  obtain ⟨u5, rfl, M5, K5, E5q, F5a, F5b, F5c, V5, Bk5, lu5, tu5⟩ := q5
  obtain ⟨h5, e5⟩ : ∃ z, z = T5.heap := ⟨_, rfl⟩
  rw [← e5] at K5 E5q F5a F5b F5c V5
  have e5 := e5.symm
  have KK5 : Keep h0 h5 [sb, d] := KK3.trans K5 (allS (P := fun x => x ∈ [sb, d] ∨ h0.size ≤ x) (hor3.elim (fun e => Or.inl (e ▸ List.mem_of_getElem? (i := 1) rfl)) (fun q => Or.inr (Nat.le_trans (Keep.refl h0 []).1 q))) all0)
  have N5 := Fr.app N3 M5
  show own_WP _ _ _ _ _ _ _ (T5.setTop (mkF m 33 #[.val (.ref sb), .val (.ref a), .val (.int zl)] []))
  refine own_aloadN (pc' := 34) X5 hx (hb hby d10_33) rfl rfl rfl ?_
  refine own_dup (pc' := 35) X5 hx (hb hby d10_34) rfl rfl ?_
  refine own_getF (pc' := 38) X5 hx hZ hown (host := "") (Or.inl (own_w hw 84 rfl)) Via.refl e5 F5c (hb hby d10_35) rfl ?_
  intro T10 X10 e10
  refine own_iloadN (pc' := 39) X10 hx (hb hby d10_38) rfl rfl ?_
  refine own_iadd (pc' := 40) X10 hx (hb hby d10_39) rfl ?_
  rw [← hmi0]
  refine own_putF (pc' := 43) X10 hx hZ hown (host := "") (Or.inl (own_w hw 84 rfl)) Via.refl e10 F5c E5q (Or.inl (own_w hw 85 rfl)) (own_w hw 45 rfl) (ty := .int) (by decide) rfl rfl (hb hby d10_40) rfl ?_
  intro T11 h11 X11 e11 W11
  have Fw11 := F5c.same W11
  have N11 := Fr.snoc X11 N5 g_sb
  have K11 : Keep h0 h11 [sb, d] := KK5.wr W11 (Or.inl (List.mem_of_getElem? (i := 0) rfl))
  refine own_aloadN (pc' := 44) X11 hx (hb hby d10_43) rfl rfl rfl ?_
  have f12 := (E5q.wr W11)
  have f13 := (F5a.other W11 (Or.inr (slot_ne (Or.inl (own_w hw 59 rfl)) (Or.inl (own_w hw 85 rfl)) (by decide) (t := (.array .byte)) (t' := .int) (by decide +kernel) (by decide +kernel))))
  have f14 := (F5b.other W11 (Or.inr (slot_ne (Or.inl (own_w hw 61 rfl)) (Or.inl (own_w hw 85 rfl)) (by decide) (t := .byte) (t' := .int) (by decide +kernel) (by decide +kernel))))
  have f15 := (V5.other W11 ne_c3_sb)
  refine own_retA X11 hx (fun _ _ _ _ q => q) hlk rfl hret rfl rfl (hb hby d10_44) (by decide) (by decide) ?_
  rw [e11]
  have q1 := own_nat (x := cnt) (by omega)
  have q2 := own_nat (x := cap) (by omega)
  have ht : u3.take cnt.toNatClampNeg = vs.take cnt.toNatClampNeg := by rw [← tu3, List.take_take, Nat.min_eq_left (by omega)]
  exact ⟨c3, k3, cp3, mi, u5, rfl, N11, K11, hor3, g_c3, ne_sb_c3, f12, f13, f14, Fw11, f15, Bk5, by rw [lu5]; exact lu3, by rw [← hmi]; exact hcp3, hmi, by rw [tu5, ht]⟩
theorem d9_0 : decode jdk_67_method_7_code 0 = .ok (.aload_n 0, 1) := by decide +kernel
theorem d9_1 : decode jdk_67_method_7_code 1 = .ok (.aload_n 1, 1) := by decide +kernel
theorem d9_2 : decode jdk_67_method_7_code 2 = .ok (.invokespecial 29, 3) := by decide +kernel
theorem d9_5 : decode jdk_67_method_7_code 5 = .ok (.pop, 1) := by decide +kernel
theorem d9_6 : decode jdk_67_method_7_code 6 = .ok (.aload_n 0, 1) := by decide +kernel
theorem d9_7 : decode jdk_67_method_7_code 7 = .ok (.areturn, 1) := by decide +kernel
theorem pn_9 : plainFor (⟨"java/lang/StringBuilder", "append", "(Ljava/lang/String;)Ljava/lang/StringBuilder;"⟩ : MethodName) = true := plainFor_of_name (by first | (simp [plainName, overriddenIn]; done) | decide +kernel)
theorem ef_con_ss (m : MethodId) (sb : Addr) (a : Addr) : entryFrame m #[(.ref sb), (.ref a)] 2 = mkF m 0 #[.val (.ref sb), .val (.ref a)] [] := by first | (simp [entryFrame, mkF, argsToLocals, Value.category]; done) | rfl
theorem pd21 : parseMethodDescriptor "(Ljava/lang/String;)Ljava/lang/AbstractStringBuilder;" = some ⟨[(.object "java/lang/String")], some (.object "java/lang/AbstractStringBuilder")⟩ := by decide +kernel
set_option maxRecDepth 65536 in
set_option maxHeartbeats 4000000 in
theorem con_ss (l : Launch) (Z : State) (a0 : Array Value) (hw : ∀ d ∈ tables_1, d.before a0 Z = true) (sb : Addr) (a : Addr) (h0 : Heap) (n0 : Nat) (Z0 : n0 ≤ h0.size) (G1 : Int32) (fm : Value) (hG : own_G Z G1 fm) (X00 : own_Old Z n0 h0) (d : Addr) (kd : ClassId) (cap cnt : Int32) (vs : List Value) (bE : Exa Z h0 sb "java/lang/StringBuilder") (bV : Fld Z h0 sb "java/lang/AbstractStringBuilder" "value" "[B" (.ref d)) (bC : Fld Z h0 sb "java/lang/AbstractStringBuilder" "coder" "B" (.int (0 : Int32))) (bN : Fld Z h0 sb "java/lang/AbstractStringBuilder" "count" "I" (.int cnt)) (bA : Arv Z h0 d kd .byte cap vs (.int (0 : Int32))) (hB : own_BA Z kd)(b : Addr) (kb : ClassId) (zl : Int32) (ws : List Value) (hE : Exa Z h0 a "java/lang/String") (hC : Fld Z h0 a "java/lang/String" "coder" "B" (.int (0 : Int32))) (hV : Fld Z h0 a "java/lang/String" "value" "[B" (.ref b)) (hA : Arv Z h0 b kb .byte zl ws (.int (0 : Int32))) (ne_sb_d : sb ≠ d) (ne_d_sb : d ≠ sb) (g_sb : n0 ≤ sb) (g_d : n0 ≤ d) (hcap : 0 ≤ cnt.toInt ∧ cnt.toInt ≤ cap.toInt ∧ cap.toInt ≤ 80) (hlen : vs.length = cap.toNatClampNeg) (hws : ws.length = zl.toNatClampNeg) (hzl : 0 ≤ zl.toInt ∧ zl.toInt ≤ 40) (ne_a_d : a ≠ d) (ne_b_d : b ≠ d) (ne_a_sb : a ≠ sb) (ne_b_sb : b ≠ sb) (ne_sb_a : sb ≠ a) :
    own_Con l Z (⟨"java/lang/StringBuilder", "append", "(Ljava/lang/String;)Ljava/lang/StringBuilder;"⟩ : MethodName) jdk_67_method_7_code 2 (some (.object "java/lang/StringBuilder")) ({ frames := 5, cells := 1, slots := 170, locals := 81 } : Room) #[(.ref sb), (.ref a)] h0 (fun v h L => ∃ (d' : Addr) (kd' : ClassId) (cap' cnt' : Int32) (us : List Value), v = some (.ref sb) ∧ Fr n0 L ∧ Keep h0 h [sb, d] ∧ (d' = d ∨ h0.size ≤ d') ∧ n0 ≤ d' ∧ sb ≠ d' ∧ Exa Z h sb "java/lang/StringBuilder" ∧ Fld Z h sb "java/lang/AbstractStringBuilder" "value" "[B" (.ref d') ∧ Fld Z h sb "java/lang/AbstractStringBuilder" "coder" "B" (.int (0 : Int32)) ∧ Fld Z h sb "java/lang/AbstractStringBuilder" "count" "I" (.int cnt') ∧ Arv Z h d' kd' .byte cap' us (.int (0 : Int32)) ∧ own_BA Z kd' ∧ us.length = cap'.toNatClampNeg ∧ cap'.toInt = own_cap cap.toInt (cnt.toInt + zl.toInt) ∧ cnt'.toInt = cnt.toInt + zl.toInt ∧ us.take (cnt.toNatClampNeg + zl.toNatClampNeg) = vs.take cnt.toNatClampNeg ++ ws) := by
  refine own_Con_of pn_9 ?_
  intro p e s m below meth c s₁ X0 hx hby hml hret hlk hnm hown hZ e0
  have hown : s.vm.findClass "java/lang/StringBuilder" = some m.cls := hown
  have hml : c.maxLocals = 2 := hml
  have N0 := Fr.nil n0
  show own_WP _ _ _ _ _ _ _ (s₁.setTop (entryFrame m #[(.ref sb), (.ref a)] 2))
  rw [ef_con_ss m sb a]
  refine own_aloadN (pc' := 1) X0 hx (hb hby d9_0) rfl rfl rfl ?_
  refine own_aloadN (pc' := 2) X0 hx (hb hby d9_1) rfl rfl rfl ?_
  refine own_callSup (pc' := 5) (W := 0) (y := (⟨"java/lang/AbstractStringBuilder", "append", "(Ljava/lang/String;)Ljava/lang/AbstractStringBuilder;"⟩ : MethodName)) X0 hx hZ hown (own_w hw 68 rfl) (own_w hw 69 rfl) (own_same (y := (⟨"java/lang/AbstractStringBuilder", "append", "(Ljava/lang/String;)Ljava/lang/AbstractStringBuilder;"⟩ : MethodName)) (by decide) (own_w hw 69 rfl) (own_nif (y := (⟨"java/lang/AbstractStringBuilder", "ensureCapacityInternal", "(I)V"⟩ : MethodName)) (own_w hw 89 rfl))) (own_w hw 70 rfl) (by decide) (own_w hw 54 rfl) (own_w hw 72 rfl) bE (con_as l Z a0 hw sb a _ n0 Z0 G1 fm hG X00 d kd cap cnt vs bE bV bC bN bA hB b kb zl ws hE hC hV hA ne_sb_d ne_d_sb g_sb g_d hcap hlen hws hzl ne_a_d ne_b_d ne_a_sb ne_b_sb ne_sb_a) e0 pd21 [(.ref a)] [] rfl rfl rfl (Nat.le_of_eq rfl) (by decide) (by decide) (by rw [hml]; rfl) (hb hby d9_2) (by decide) (by decide) rfl ?_
  intro v1 T1 L1 X1 q1
  obtain ⟨c1, k1, cp1, ct1, u1, rfl, M1, K1, hor1, g_c1, nsb1, E1q, F1a, F1b, F1c, V1, Bk1, lu1, hcp1, hct1, tu1⟩ := q1
  have ne_sb_c1 : sb ≠ c1 := own_ne2 ne_sb_d bE.lt hor1
  obtain ⟨h1, e1⟩ : ∃ z, z = T1.heap := ⟨_, rfl⟩
  rw [← e1] at K1 E1q F1a F1b F1c V1
  have e1 := e1.symm
  have KK1 : Keep h0 h1 [sb, d] := (Keep.refl h0 [sb, d]).trans K1 (allS (P := fun x => x ∈ [sb, d] ∨ h0.size ≤ x) (Or.inl (List.mem_of_getElem? (i := 0) rfl)) (allS (P := fun x => x ∈ [sb, d] ∨ h0.size ≤ x) (Or.inl (List.mem_of_getElem? (i := 1) rfl)) all0))
  have N1 := Fr.app N0 M1
  show own_WP _ _ _ _ _ _ _ (T1.setTop (mkF m 5 #[.val (.ref sb), .val (.ref a)] [(.ref sb)]))
  refine own_pop (pc' := 6) X1 hx (hb hby d9_5) rfl rfl ?_
  refine own_aloadN (pc' := 7) X1 hx (hb hby d9_6) rfl rfl rfl ?_
  refine own_retA X1 hx (fun _ _ _ _ q => q) hlk rfl hret rfl rfl (hb hby d9_7) (by decide) (by decide) ?_
  rw [e1]
  exact ⟨c1, k1, cp1, ct1, u1, rfl, N1, KK1, hor1, g_c1, ne_sb_c1, E1q, F1a, F1b, F1c, V1, Bk1, lu1, hcp1, hct1, tu1⟩
theorem d8_0 : decode jdk_68_method_2_code 0 = .ok (.aload_n 0, 1) := by decide +kernel
theorem d8_1 : decode jdk_68_method_2_code 1 = .ok (.invokespecial 3, 3) := by decide +kernel
theorem d8_4 : decode jdk_68_method_2_code 4 = .ok (.getstatic 18, 3) := by decide +kernel
theorem d8_7 : decode jdk_68_method_2_code 7 = .ok (.ifCond .eq 18, 3) := by decide +kernel
theorem d8_10 : decode jdk_68_method_2_code 10 = .ok (.aload_n 0, 1) := by decide +kernel
theorem d8_11 : decode jdk_68_method_2_code 11 = .ok (.iload_n 1, 1) := by decide +kernel
theorem d8_12 : decode jdk_68_method_2_code 12 = .ok (.newarray .byte, 2) := by decide +kernel
theorem d8_14 : decode jdk_68_method_2_code 14 = .ok (.putfield 15, 3) := by decide +kernel
theorem d8_17 : decode jdk_68_method_2_code 17 = .ok (.aload_n 0, 1) := by decide +kernel
theorem d8_18 : decode jdk_68_method_2_code 18 = .ok (.iconst 0, 1) := by decide +kernel
theorem d8_19 : decode jdk_68_method_2_code 19 = .ok (.putfield 22, 3) := by decide +kernel
theorem d8_22 : decode jdk_68_method_2_code 22 = .ok (.goto 16, 3) := by decide +kernel
theorem d8_38 : decode jdk_68_method_2_code 38 = .ok (.return_, 1) := by decide +kernel
theorem pn_8 : plainFor (⟨"java/lang/AbstractStringBuilder", "<init>", "(I)V"⟩ : MethodName) = true := plainFor_of_name (by first | (simp [plainName, overriddenIn]; done) | decide +kernel)
theorem ef_con_ai (m : MethodId) (sb : Addr) : entryFrame m #[(.ref sb), (.int (16 : Int32))] 2 = mkF m 0 #[.val (.ref sb), .val (.int (16 : Int32))] [] := by first | (simp [entryFrame, mkF, argsToLocals, Value.category]; done) | rfl
set_option maxRecDepth 65536 in
set_option maxHeartbeats 4000000 in
theorem con_ai (l : Launch) (Z : State) (a0 : Array Value) (hw : ∀ d ∈ tables_1, d.before a0 Z = true) (sb : Addr) (h0 : Heap) (n0 : Nat) (Z0 : n0 ≤ h0.size) (G1 : Int32) (fm : Value) (hG : own_G Z G1 fm) (X00 : own_Old Z n0 h0) (bE : Exa Z h0 sb "java/lang/StringBuilder") (bV : Fld Z h0 sb "java/lang/AbstractStringBuilder" "value" "[B" .null) (bC : Fld Z h0 sb "java/lang/AbstractStringBuilder" "coder" "B" (.int (0 : Int32))) (bN : Fld Z h0 sb "java/lang/AbstractStringBuilder" "count" "I" (.int (0 : Int32))) (g_sb : n0 ≤ sb) :
    own_Con l Z (⟨"java/lang/AbstractStringBuilder", "<init>", "(I)V"⟩ : MethodName) jdk_68_method_2_code 2 none ({ frames := 1, cells := 1, slots := 16, locals := 12 } : Room) #[(.ref sb), (.int (16 : Int32))] h0 (fun v h L => ∃ (d : Addr) (kd : ClassId), v = none ∧ Fr n0 L ∧ Keep h0 h [sb] ∧ h0.size ≤ d ∧ Exa Z h sb "java/lang/StringBuilder" ∧ Fld Z h sb "java/lang/AbstractStringBuilder" "value" "[B" (.ref d) ∧ Fld Z h sb "java/lang/AbstractStringBuilder" "coder" "B" (.int (0 : Int32)) ∧ Fld Z h sb "java/lang/AbstractStringBuilder" "count" "I" (.int (0 : Int32)) ∧ Arv Z h d kd .byte (16 : Int32) (List.replicate 16 (.int (0 : Int32))) (.int (0 : Int32)) ∧ own_BA Z kd) := by
  refine own_Con_of pn_8 ?_
  intro p e s m below meth c s₁ X0 hx hby hml hret hlk hnm hown hZ e0
  have hown : s.vm.findClass "java/lang/AbstractStringBuilder" = some m.cls := hown
  have hml : c.maxLocals = 2 := hml
  have N0 := Fr.nil n0
  show own_WP _ _ _ _ _ _ _ (s₁.setTop (entryFrame m #[(.ref sb), (.int (16 : Int32))] 2))
  rw [ef_con_ai m sb]
  refine own_aloadN (pc' := 1) X0 hx (hb hby d8_0) rfl rfl rfl ?_
  refine own_initO (pc' := 4) (W := 0) X0 hx hZ hown (own_w hw 56 rfl) (own_w hw 13 rfl) (own_w hw 14 rfl) e0 (by rw [hml]; rfl) (hb hby d8_1) (by decide) (Nat.le_of_eq rfl) (by decide) rfl ?_
  intro T1 X1 e1
  refine own_getS (pc' := 7) X1 hx hZ hown (host := "") (Or.inl (own_w hw 57 rfl)) Via.refl e1 (hG.1.ext X00.x) (hb hby d8_4) rfl ?_
  intro T2 X2 e2
  refine own_if_eq (pt := 25) (pf := 10) X2 hx (hb hby d8_7) rfl (by decide) rfl (fun hc7 => absurd hc7 (hG.2.1)) (fun hc7 => ?_)
  refine own_aloadN (pc' := 11) X2 hx (hb hby d8_10) rfl rfl rfl ?_
  refine own_iloadN (pc' := 12) X2 hx (hb hby d8_11) rfl rfl ?_
  refine own_newPB (pc' := 14) (cap := 16) X2 hx hZ (own_w hw 16 rfl) e2 (hb hby d8_12) (by decide) (by decide) (by decide) (by decide) (by decide) rfl ?_
  intro T3 h3 k3 b3 g3 X3 e3 E3 A3 Bk3
  have ne_sb_b3 : sb ≠ b3 := Nat.ne_of_lt (Nat.lt_of_lt_of_le bE.lt (Nat.le_of_eq g3.symm))
  have ne_b3_sb := ne_sb_b3.symm
  have sz_b3 : h0.size ≤ b3 := Nat.le_trans (Keep.refl h0 [sb]).1 (Nat.le_of_eq g3.symm)
  have K3 : Keep h0 h3 [sb] := (Keep.refl h0 [sb]).ext E3
  have V3 : Arv Z h3 b3 k3 .byte (16 : Int32) [(.int (0 : Int32)), (.int (0 : Int32)), (.int (0 : Int32)), (.int (0 : Int32)), (.int (0 : Int32)), (.int (0 : Int32)), (.int (0 : Int32)), (.int (0 : Int32)), (.int (0 : Int32)), (.int (0 : Int32)), (.int (0 : Int32)), (.int (0 : Int32)), (.int (0 : Int32)), (.int (0 : Int32)), (.int (0 : Int32)), (.int (0 : Int32))] (.int (0 : Int32)) := (Arv.new A3 (by decide)).pad (pad_rep [] (.int (0 : Int32)) 16)
  have f4 := (bV.ext E3)
  have f5 := (bE.ext E3)
  refine own_putF (pc' := 17) X3 hx hZ hown (host := "") (Or.inl (own_w hw 58 rfl)) Via.refl e3 f4 f5 (Or.inl (own_w hw 59 rfl)) (own_w hw 45 rfl) (ty := (.array .byte)) (by decide +kernel) rfl rfl (hb hby d8_14) rfl ?_
  intro T6 h6 X6 e6 W6
  have Fw6 := f4.same W6
  have N6 := Fr.snoc X6 N0 g_sb
  have K6 : Keep h0 h6 [sb] := K3.wr W6 (Or.inl (List.mem_of_getElem? (i := 0) rfl))
  refine own_aloadN (pc' := 18) X6 hx (hb hby d8_17) rfl rfl rfl ?_
  refine own_iconst (pc' := 19) X6 hx (0 : Int32) (hb hby d8_18) rfl rfl ?_
  have f7 := ((bC.ext E3).other W6 (Or.inr (slot_ne (Or.inl (own_w hw 61 rfl)) (Or.inl (own_w hw 59 rfl)) (by decide) (t := .byte) (t' := (.array .byte)) (by decide +kernel) (by decide +kernel))))
  have f8 := (f5.wr W6)
  refine own_putF (pc' := 22) X6 hx hZ hown (host := "") (Or.inl (own_w hw 60 rfl)) Via.refl e6 f7 f8 (Or.inl (own_w hw 61 rfl)) (own_w hw 45 rfl) (ty := .byte) (by decide) rfl rfl (hb hby d8_19) rfl ?_
  intro T9 h9 X9 e9 W9
  have Fw9 := f7.same W9
  have N9 := Fr.snoc X9 N6 g_sb
  have K9 : Keep h0 h9 [sb] := K6.wr W9 (Or.inl (List.mem_of_getElem? (i := 0) rfl))
  refine own_goto (pc' := 38) X9 hx (hb hby d8_22) (by decide) rfl ?_
  have f10 := (f8.wr W9)
  have f11 := (Fw6.other W9 (Or.inr (slot_ne (Or.inl (own_w hw 59 rfl)) (Or.inl (own_w hw 61 rfl)) (by decide) (t := (.array .byte)) (t' := .byte) (by decide +kernel) (by decide +kernel))))
  have f12 := (((bN.ext E3).other W6 (Or.inr (slot_ne (Or.inl (own_w hw 85 rfl)) (Or.inl (own_w hw 59 rfl)) (by decide) (t := .int) (t' := (.array .byte)) (by decide +kernel) (by decide +kernel)))).other W9 (Or.inr (slot_ne (Or.inl (own_w hw 85 rfl)) (Or.inl (own_w hw 61 rfl)) (by decide) (t := .int) (t' := .byte) (by decide +kernel) (by decide +kernel))))
  have f13 := ((V3.other W6 ne_b3_sb).other W9 ne_b3_sb)
  refine own_ret0 X9 hx (fun _ _ _ _ q => q) hlk hret (hb hby d8_38) (by decide) (by decide) ?_
  rw [e9]
  exact ⟨b3, k3, rfl, N9, K9, sz_b3, f10, f11, Fw9, f12, f13, Bk3⟩
theorem d7_0 : decode jdk_67_method_1_code 0 = .ok (.aload_n 0, 1) := by decide +kernel
theorem d7_1 : decode jdk_67_method_1_code 1 = .ok (.bipush 16, 2) := by decide +kernel
theorem d7_3 : decode jdk_67_method_1_code 3 = .ok (.invokespecial 1, 3) := by decide +kernel
theorem d7_6 : decode jdk_67_method_1_code 6 = .ok (.return_, 1) := by decide +kernel
theorem pn_7 : plainFor (⟨"java/lang/StringBuilder", "<init>", "()V"⟩ : MethodName) = true := plainFor_of_name (by first | (simp [plainName, overriddenIn]; done) | decide +kernel)
theorem ef_con_si (m : MethodId) (sb : Addr) : entryFrame m #[(.ref sb)] 1 = mkF m 0 #[.val (.ref sb)] [] := by first | (simp [entryFrame, mkF, argsToLocals, Value.category]; done) | rfl
set_option maxRecDepth 65536 in
set_option maxHeartbeats 4000000 in
theorem con_si (l : Launch) (Z : State) (a0 : Array Value) (hw : ∀ d ∈ tables_1, d.before a0 Z = true) (sb : Addr) (h0 : Heap) (n0 : Nat) (Z0 : n0 ≤ h0.size) (G1 : Int32) (fm : Value) (hG : own_G Z G1 fm) (X00 : own_Old Z n0 h0) (bE : Exa Z h0 sb "java/lang/StringBuilder") (bV : Fld Z h0 sb "java/lang/AbstractStringBuilder" "value" "[B" .null) (bC : Fld Z h0 sb "java/lang/AbstractStringBuilder" "coder" "B" (.int (0 : Int32))) (bN : Fld Z h0 sb "java/lang/AbstractStringBuilder" "count" "I" (.int (0 : Int32))) (g_sb : n0 ≤ sb) :
    own_Con l Z (⟨"java/lang/StringBuilder", "<init>", "()V"⟩ : MethodName) jdk_67_method_1_code 1 none ({ frames := 2, cells := 1, slots := 16, locals := 25 } : Room) #[(.ref sb)] h0 (fun v h L => ∃ (d : Addr) (kd : ClassId), v = none ∧ Fr n0 L ∧ Keep h0 h [sb] ∧ h0.size ≤ d ∧ Exa Z h sb "java/lang/StringBuilder" ∧ Fld Z h sb "java/lang/AbstractStringBuilder" "value" "[B" (.ref d) ∧ Fld Z h sb "java/lang/AbstractStringBuilder" "coder" "B" (.int (0 : Int32)) ∧ Fld Z h sb "java/lang/AbstractStringBuilder" "count" "I" (.int (0 : Int32)) ∧ Arv Z h d kd .byte (16 : Int32) (List.replicate 16 (.int (0 : Int32))) (.int (0 : Int32)) ∧ own_BA Z kd) := by
  refine own_Con_of pn_7 ?_
  intro p e s m below meth c s₁ X0 hx hby hml hret hlk hnm hown hZ e0
  have hown : s.vm.findClass "java/lang/StringBuilder" = some m.cls := hown
  have hml : c.maxLocals = 1 := hml
  have N0 := Fr.nil n0
  show own_WP _ _ _ _ _ _ _ (s₁.setTop (entryFrame m #[(.ref sb)] 1))
  rw [ef_con_si m sb]
  refine own_aloadN (pc' := 1) X0 hx (hb hby d7_0) rfl rfl rfl ?_
  refine own_bipush (pc' := 3) X0 hx (16 : Int32) (hb hby d7_1) rfl rfl ?_
  refine own_callN (pc' := 6) (W := 0) (y := (⟨"java/lang/AbstractStringBuilder", "<init>", "(I)V"⟩ : MethodName)) X0 hx hZ rfl hown (own_w hw 50 rfl) (own_w hw 51 rfl) (own_w hw 54 rfl) (own_w hw 55 rfl) (by decide) (con_ai l Z a0 hw sb _ n0 Z0 G1 fm hG X00 bE bV bC bN g_sb) e0 pd19 sb [(.int (16 : Int32))] [] rfl rfl rfl (Nat.le_of_eq rfl) (by decide) (by decide) (by rw [hml]; rfl) (hb hby d7_3) (by decide) (by decide) rfl ?_
  intro v1 T1 L1 X1 q1
  obtain ⟨c1, k1, rfl, M1, K1, s1, E1q, F1a, F1b, F1c, V1, Bk1⟩ := q1
  have sz_c1 : h0.size ≤ c1 := Nat.le_trans (Keep.refl h0 [sb]).1 s1
  obtain ⟨h1, e1⟩ : ∃ z, z = T1.heap := ⟨_, rfl⟩
  rw [← e1] at K1 E1q F1a F1b F1c V1
  have e1 := e1.symm
  have KK1 : Keep h0 h1 [sb] := (Keep.refl h0 [sb]).trans K1 (allS (P := fun x => x ∈ [sb] ∨ h0.size ≤ x) (Or.inl (List.mem_of_getElem? (i := 0) rfl)) all0)
  have N1 := Fr.app N0 M1
  show own_WP _ _ _ _ _ _ _ (T1.setTop (mkF m 6 #[.val (.ref sb)] []))
  refine own_ret0 X1 hx (fun _ _ _ _ q => q) hlk hret (hb hby d7_6) (by decide) (by decide) ?_
  rw [e1]
  exact ⟨c1, k1, rfl, N1, KK1, sz_c1, E1q, F1a, F1b, F1c, V1, Bk1⟩
theorem d19_0 : decode jdk_35_method_15_code 0 = .ok (.iconst 1, 1) := by decide +kernel
theorem d19_1 : decode jdk_35_method_15_code 1 = .ok (.istore_n 2, 1) := by decide +kernel
theorem d19_2 : decode jdk_35_method_15_code 2 = .ok (.lload_n 0, 1) := by decide +kernel
theorem d19_3 : decode jdk_35_method_15_code 3 = .ok (.lconst 0, 1) := by decide +kernel
theorem d19_4 : decode jdk_35_method_15_code 4 = .ok (.lcmp, 1) := by decide +kernel
theorem d19_5 : decode jdk_35_method_15_code 5 = .ok (.ifCond .lt 8, 3) := by decide +kernel
theorem d19_8 : decode jdk_35_method_15_code 8 = .ok (.iconst 0, 1) := by decide +kernel
theorem d19_9 : decode jdk_35_method_15_code 9 = .ok (.istore_n 2, 1) := by decide +kernel
theorem d19_10 : decode jdk_35_method_15_code 10 = .ok (.lload_n 0, 1) := by decide +kernel
theorem d19_11 : decode jdk_35_method_15_code 11 = .ok (.lneg, 1) := by decide +kernel
theorem d19_12 : decode jdk_35_method_15_code 12 = .ok (.lstore_n 0, 1) := by decide +kernel
theorem d19_13 : decode jdk_35_method_15_code 13 = .ok (.ldc2_w 140, 3) := by decide +kernel
theorem d19_16 : decode jdk_35_method_15_code 16 = .ok (.lstore_n 3, 1) := by decide +kernel
theorem d19_17 : decode jdk_35_method_15_code 17 = .ok (.iconst 1, 1) := by decide +kernel
theorem d19_18 : decode jdk_35_method_15_code 18 = .ok (.istore 5, 2) := by decide +kernel
theorem d19_20 : decode jdk_35_method_15_code 20 = .ok (.iload 5, 2) := by decide +kernel
theorem d19_22 : decode jdk_35_method_15_code 22 = .ok (.bipush 19, 2) := by decide +kernel
theorem d19_24 : decode jdk_35_method_15_code 24 = .ok (.if_icmp .ge 26, 3) := by decide +kernel
theorem d19_27 : decode jdk_35_method_15_code 27 = .ok (.lload_n 0, 1) := by decide +kernel
theorem d19_28 : decode jdk_35_method_15_code 28 = .ok (.lload_n 3, 1) := by decide +kernel
theorem d19_29 : decode jdk_35_method_15_code 29 = .ok (.lcmp, 1) := by decide +kernel
theorem d19_30 : decode jdk_35_method_15_code 30 = .ok (.ifCond .le 8, 3) := by decide +kernel
theorem d19_33 : decode jdk_35_method_15_code 33 = .ok (.iload 5, 2) := by decide +kernel
theorem d19_35 : decode jdk_35_method_15_code 35 = .ok (.iload_n 2, 1) := by decide +kernel
theorem d19_36 : decode jdk_35_method_15_code 36 = .ok (.iadd, 1) := by decide +kernel
theorem d19_37 : decode jdk_35_method_15_code 37 = .ok (.ireturn, 1) := by decide +kernel
theorem d19_38 : decode jdk_35_method_15_code 38 = .ok (.ldc2_w 53, 3) := by decide +kernel
theorem d19_41 : decode jdk_35_method_15_code 41 = .ok (.lload_n 3, 1) := by decide +kernel
theorem d19_42 : decode jdk_35_method_15_code 42 = .ok (.lmul, 1) := by decide +kernel
theorem d19_43 : decode jdk_35_method_15_code 43 = .ok (.lstore_n 3, 1) := by decide +kernel
theorem d19_44 : decode jdk_35_method_15_code 44 = .ok (.iinc 5 1, 3) := by decide +kernel
theorem d19_47 : decode jdk_35_method_15_code 47 = .ok (.goto (-27), 3) := by decide +kernel
theorem d19_50 : decode jdk_35_method_15_code 50 = .ok (.bipush 19, 2) := by decide +kernel
theorem d19_52 : decode jdk_35_method_15_code 52 = .ok (.iload_n 2, 1) := by decide +kernel
theorem d19_53 : decode jdk_35_method_15_code 53 = .ok (.iadd, 1) := by decide +kernel
theorem d19_54 : decode jdk_35_method_15_code 54 = .ok (.ireturn, 1) := by decide +kernel
theorem pn_19 : plainFor (⟨"java/lang/Long", "stringSize", "(J)I"⟩ : MethodName) = true := plainFor_of_name (by first | (simp [plainName, overriddenIn]; done) | decide +kernel)
theorem own_p10 {p q : Int64} {j : Nat} (hj : j ≤ 18 → p.toInt = -((10 ^ j : Nat) : Int)) (hq : q = (10 : Int64) * p) : j + 1 ≤ 18 → q.toInt = -((10 ^ (j + 1) : Nat) : Int) := by
  intro h
  have e := hj (by omega)
  have b : 10 ^ j ≤ 10 ^ 17 := Nat.pow_le_pow_right (by decide) (by omega)
  have b2 : 10 ^ 17 = 100000000000000000 := by decide
  have m := c_lmul 10 p
  have r := rng64 ((10 : Int64) * p)
  have e10 : (10 : Int64).toInt = 10 := rfl
  rw [e10, e] at m
  rw [hq, Nat.pow_succ]
  generalize 10 ^ j = B at *
  omega
set_option maxRecDepth 65536 in
set_option maxHeartbeats 4000000 in
theorem con_szL {p : Program} {l : Launch} {e : Env} {R : Room} {s : State} {m : MethodId} {args : Array Value} {below : List Frame} {meth : Method} {c : Code} {Z : State} {a0 : Array Value} (hw : ∀ d ∈ tables_1, d.before a0 Z = true) (hx : p.tables.exec = Jvm.exec) (hby : c.code = jdk_35_method_15_code) (hret : meth.sig.returnType = some .int) (hlk : meth.locks = false) (hown : s.vm.findClass "java/lang/Long" = some m.cls) (hZ : Z.Warmed39 s.vm) (h0 : Heap) (xx : Int64) (dd : Int32) (A : Nat) (hA : xx.toInt = -(A : Int)) (hdd : 0 ≤ dd.toInt ∧ dd.toInt ≤ 1) :
    ∀ (k : Nat) (T0 : State) (X0 : Stand p l e R s m args below meth c T0 [] 0 0) (e0 : T0.heap = h0) (j : Nat) (pp : Int64) (ii : Int32) (hi : ii.toInt = (j : Int)) (hj1 : 1 ≤ j) (hjk : j + k = 19) (hp : j ≤ 18 → pp.toInt = -((10 ^ j : Nat) : Int)) (hlo : j = 1 ∨ 10 ^ (j - 1) ≤ A), own_WP p e below (FrameEnd s) (fun v h L => ∃ z : Int32, v = some (.int z) ∧ (∃ kk : Nat, own_dgs A kk ∧ z.toInt = (kk : Int) + dd.toInt) ∧ L = [] ∧ h = h0) 0 0 (T0.setTop (mkF m 20 #[.val (.long xx), .second, .val (.int dd), .val (.long pp), .second, .val (.int ii)] [])) := by
  intro k
  induction k using Nat.strongRecOn with | _ k ih => ?_
  intro T0 X0 e0 j pp ii hi hj1 hjk hp hlo
  refine own_iload (pc' := 22) X0 hx (hb hby d19_20) rfl rfl ?_
  refine own_bipush (pc' := 24) X0 hx (19 : Int32) (hb hby d19_22) rfl rfl ?_
  refine own_icmp_ge (pt := 50) (pf := 27) X0 hx (hb hby d19_24) rfl (by decide) rfl (fun hc24 => ?_) (fun hc24 => ?_)
  · skip
    refine own_bipush (pc' := 52) X0 hx (19 : Int32) (hb hby d19_50) rfl rfl ?_
    refine own_iloadN (pc' := 53) X0 hx (hb hby d19_52) rfl rfl ?_
    refine own_iadd (pc' := 54) X0 hx (hb hby d19_53) rfl ?_
    refine own_retI X0 hx (fun _ _ _ _ q => q) hlk hret (hb hby d19_54) (by decide) (by decide) ?_
    have hge : j = 19 := by rw [Int32.lt_iff_toInt_lt] at hc24; have hc24 : ¬ ii.toInt < 19 := hc24; omega
    subst hge
    exact ⟨_, rfl, ⟨19, ⟨by decide, by have := rng64 xx; have e : (10 : Nat) ^ 19 = 10000000000000000000 := (by decide); omega, hlo⟩, by rw [own_add (z := ((19 : Int32) + dd)) rfl (by decide) (by omega)]; have e1 : (19 : Int32).toInt = 19 := rfl; omega⟩, rfl, e0⟩
  · skip
    have hlt : j ≤ 18 := by rw [Int32.lt_iff_toInt_lt] at hc24; have hc24 : ii.toInt < 19 := hc24; omega
    refine own_lloadN (pc' := 28) X0 hx (hb hby d19_27) rfl rfl ?_
    refine own_lloadN (pc' := 29) X0 hx (hb hby d19_28) rfl rfl ?_
    refine own_lcmp (pc' := 30) X0 hx (hb hby d19_29) rfl ?_
    refine own_ifl_le (pt := 38) (pf := 33) X0 hx (hb hby d19_30) rfl (by decide) rfl (fun hc30 => ?_) (fun hc30 => ?_)
    · skip
      refine own_ldc2Long (pc' := 41) X0 hx hZ hown (own_w hw 296 rfl) (hb hby d19_38) rfl ?_
      refine own_lloadN (pc' := 42) X0 hx (hb hby d19_41) rfl rfl ?_
      refine own_lmul (pc' := 43) X0 hx (hb hby d19_42) rfl ?_
      obtain ⟨v1, hv1⟩ : ∃ z : Int64, z = ((10 : Int64) * pp) := ⟨_, rfl⟩
      refine own_lstoreN (pc' := 44) (l' := #[.val (.long xx), .second, .val (.int dd), .val (.long v1), .second, .val (.int ii)]) X0 hx (hb hby d19_43) hv1 rfl rfl ?_
      obtain ⟨v2, hv2⟩ : ∃ z : Int32, z = (ii + (1 : Int32)) := ⟨_, rfl⟩
      refine own_iinc (pc' := 47) (l' := #[.val (.long xx), .second, .val (.int dd), .val (.long v1), .second, .val (.int v2)]) X0 hx (hb hby d19_44) rfl hv2 rfl rfl ?_
      refine own_goto (pc' := 20) X0 hx (hb hby d19_47) (by decide) rfl ?_
      have hc30' : ¬ pp.toInt < xx.toInt := by rw [Int64.lt_iff_toInt_lt] at hc30; exact hc30
      have hpj := hp (by omega)
      exact ih (k - 1) (by omega) T0 X0 e0 (j + 1) v1 v2 (by rw [own_add hv2 (by omega) (by decide)]; have e1 : (1 : Int32).toInt = 1 := rfl; omega) (by omega) (by omega) (own_p10 hp hv1) (Or.inr (by rw [Nat.add_sub_cancel]; omega))
    · skip
      refine own_iload (pc' := 35) X0 hx (hb hby d19_33) rfl rfl ?_
      refine own_iloadN (pc' := 36) X0 hx (hb hby d19_35) rfl rfl ?_
      refine own_iadd (pc' := 37) X0 hx (hb hby d19_36) rfl ?_
      refine own_retI X0 hx (fun _ _ _ _ q => q) hlk hret (hb hby d19_37) (by decide) (by decide) ?_
      have hc30' : pp.toInt < xx.toInt := by rw [Int64.lt_iff_toInt_lt] at hc30; exact hc30
      have hpj := hp hlt
      exact ⟨_, rfl, ⟨j, ⟨hj1, by omega, hlo⟩, by rw [own_add (z := (ii + dd)) rfl (by omega) (by omega)]; omega⟩, rfl, e0⟩
theorem ef_con_sz (m : MethodId) (c1 : Int64) : entryFrame m #[(.long c1)] 6 = mkF m 0 #[.val (.long c1), .second, .unset, .unset, .unset, .unset] [] := by first | (simp [entryFrame, mkF, argsToLocals, Value.category]; done) | rfl
set_option maxRecDepth 65536 in
set_option maxHeartbeats 4000000 in
theorem con_sz (l : Launch) (Z : State) (a0 : Array Value) (hw : ∀ d ∈ tables_1, d.before a0 Z = true) (c1 : Int64) (h0 : Heap) :
    own_Con l Z (⟨"java/lang/Long", "stringSize", "(J)I"⟩ : MethodName) jdk_35_method_15_code 6 (some .int) ({ frames := 0, cells := 0, slots := 0, locals := 0 } : Room) #[(.long c1)] h0 (fun v h L => ∃ z : Int32, v = some (.int z) ∧ (∃ kk : Nat, own_dgs c1.toInt.natAbs kk ∧ z.toInt = (kk : Int) + (if c1.toInt < 0 then 1 else 0)) ∧ L = [] ∧ h = h0) := by
  refine own_Con_of pn_19 ?_
  intro p e s m below meth c s₁ X0 hx hby hml hret hlk hnm hown hZ e0
  have hown : s.vm.findClass "java/lang/Long" = some m.cls := hown
  have hml : c.maxLocals = 6 := hml
  show own_WP _ _ _ _ _ _ _ (s₁.setTop (entryFrame m #[(.long c1)] 6))
  rw [ef_con_sz m c1]
  refine own_iconst (pc' := 1) X0 hx (1 : Int32) (hb hby d19_0) rfl rfl ?_
  refine own_istoreN (pc' := 2) (l' := #[.val (.long c1), .second, .val (.int (1 : Int32)), .unset, .unset, .unset]) X0 hx (hb hby d19_1) rfl rfl rfl ?_
  refine own_lloadN (pc' := 3) X0 hx (hb hby d19_2) rfl rfl ?_
  refine own_lconst0 (pc' := 4) X0 hx (hb hby d19_3) rfl ?_
  refine own_lcmp (pc' := 5) X0 hx (hb hby d19_4) rfl ?_
  refine own_ifl_lt (pt := 13) (pf := 8) X0 hx (hb hby d19_5) rfl (by decide) rfl (fun hc5 => ?_) (fun hc5 => ?_)
  · skip
    refine own_ldc2Long (pc' := 16) X0 hx hZ hown (own_w hw 124 rfl) (hb hby d19_13) rfl ?_
    refine own_lstoreN (pc' := 17) (l' := #[.val (.long c1), .second, .val (.int (1 : Int32)), .val (.long (-10 : Int64)), .second, .unset]) X0 hx (hb hby d19_16) rfl rfl rfl ?_
    refine own_iconst (pc' := 18) X0 hx (1 : Int32) (hb hby d19_17) rfl rfl ?_
    refine own_istore (pc' := 20) (l' := #[.val (.long c1), .second, .val (.int (1 : Int32)), .val (.long (-10 : Int64)), .second, .val (.int (1 : Int32))]) X0 hx (hb hby d19_18) rfl rfl rfl ?_
    have hc5' : c1.toInt < 0 := by rw [Int64.lt_iff_toInt_lt] at hc5; exact hc5
    rw [show (if c1.toInt < 0 then (1 : Int) else 0) = (1 : Int32).toInt by rw [if_pos hc5']; rfl]
    exact con_szL hw hx hby hret hlk hown hZ h0 c1 (1 : Int32) _ (by omega) (by decide) 18 _ X0 e0 1 _ 1 rfl (by decide) (by decide) (fun _ => rfl) (Or.inl rfl)
  · skip
    refine own_iconst (pc' := 9) X0 hx (0 : Int32) (hb hby d19_8) rfl rfl ?_
    refine own_istoreN (pc' := 10) (l' := #[.val (.long c1), .second, .val (.int (0 : Int32)), .unset, .unset, .unset]) X0 hx (hb hby d19_9) rfl rfl rfl ?_
    refine own_lloadN (pc' := 11) X0 hx (hb hby d19_10) rfl rfl ?_
    refine own_lneg (pc' := 12) X0 hx (hb hby d19_11) rfl ?_
    obtain ⟨v1, hv1⟩ : ∃ z : Int64, z = (-c1) := ⟨_, rfl⟩
    refine own_lstoreN (pc' := 13) (l' := #[.val (.long v1), .second, .val (.int (0 : Int32)), .unset, .unset, .unset]) X0 hx (hb hby d19_12) hv1 rfl rfl ?_
    refine own_ldc2Long (pc' := 16) X0 hx hZ hown (own_w hw 124 rfl) (hb hby d19_13) rfl ?_
    refine own_lstoreN (pc' := 17) (l' := #[.val (.long v1), .second, .val (.int (0 : Int32)), .val (.long (-10 : Int64)), .second, .unset]) X0 hx (hb hby d19_16) rfl rfl rfl ?_
    refine own_iconst (pc' := 18) X0 hx (1 : Int32) (hb hby d19_17) rfl rfl ?_
    refine own_istore (pc' := 20) (l' := #[.val (.long v1), .second, .val (.int (0 : Int32)), .val (.long (-10 : Int64)), .second, .val (.int (1 : Int32))]) X0 hx (hb hby d19_18) rfl rfl rfl ?_
    have hc5' : ¬ c1.toInt < 0 := by rw [Int64.lt_iff_toInt_lt] at hc5; exact hc5
    rw [show (if c1.toInt < 0 then (1 : Int) else 0) = (0 : Int32).toInt by rw [if_neg hc5']; rfl]
    exact con_szL hw hx hby hret hlk hown hZ h0 v1 (0 : Int32) _ (by rw [own_negJ hv1 (by omega)]; omega) (by decide) 18 _ X0 e0 1 _ 1 rfl (by decide) (by decide) (fun _ => rfl) (Or.inl rfl)
theorem d21_0 : decode jdk_35_method_14_code 0 = .ok (.iload_n 2, 1) := by decide +kernel
theorem d21_1 : decode jdk_35_method_14_code 1 = .ok (.istore 7, 2) := by decide +kernel
theorem d21_3 : decode jdk_35_method_14_code 3 = .ok (.lload_n 0, 1) := by decide +kernel
theorem d21_4 : decode jdk_35_method_14_code 4 = .ok (.lconst 0, 1) := by decide +kernel
theorem d21_5 : decode jdk_35_method_14_code 5 = .ok (.lcmp, 1) := by decide +kernel
theorem d21_6 : decode jdk_35_method_14_code 6 = .ok (.ifCond .ge 7, 3) := by decide +kernel
theorem d21_9 : decode jdk_35_method_14_code 9 = .ok (.iconst 1, 1) := by decide +kernel
theorem d21_10 : decode jdk_35_method_14_code 10 = .ok (.goto 4, 3) := by decide +kernel
theorem d21_13 : decode jdk_35_method_14_code 13 = .ok (.iconst 0, 1) := by decide +kernel
theorem d21_14 : decode jdk_35_method_14_code 14 = .ok (.istore 8, 2) := by decide +kernel
theorem d21_16 : decode jdk_35_method_14_code 16 = .ok (.iload 8, 2) := by decide +kernel
theorem d21_18 : decode jdk_35_method_14_code 18 = .ok (.ifCond .ne 6, 3) := by decide +kernel
theorem d21_21 : decode jdk_35_method_14_code 21 = .ok (.lload_n 0, 1) := by decide +kernel
theorem d21_22 : decode jdk_35_method_14_code 22 = .ok (.lneg, 1) := by decide +kernel
theorem d21_23 : decode jdk_35_method_14_code 23 = .ok (.lstore_n 0, 1) := by decide +kernel
theorem d21_24 : decode jdk_35_method_14_code 24 = .ok (.lload_n 0, 1) := by decide +kernel
theorem d21_25 : decode jdk_35_method_14_code 25 = .ok (.ldc2_w 129, 3) := by decide +kernel
theorem d21_28 : decode jdk_35_method_14_code 28 = .ok (.lcmp, 1) := by decide +kernel
theorem d21_29 : decode jdk_35_method_14_code 29 = .ok (.ifCond .gt 53, 3) := by decide +kernel
theorem d21_32 : decode jdk_35_method_14_code 32 = .ok (.lload_n 0, 1) := by decide +kernel
theorem d21_33 : decode jdk_35_method_14_code 33 = .ok (.ldc2_w 131, 3) := by decide +kernel
theorem d21_36 : decode jdk_35_method_14_code 36 = .ok (.ldiv, 1) := by decide +kernel
theorem d21_37 : decode jdk_35_method_14_code 37 = .ok (.lstore 4, 2) := by decide +kernel
theorem d21_39 : decode jdk_35_method_14_code 39 = .ok (.lload 4, 2) := by decide +kernel
theorem d21_41 : decode jdk_35_method_14_code 41 = .ok (.ldc2_w 131, 3) := by decide +kernel
theorem d21_44 : decode jdk_35_method_14_code 44 = .ok (.lmul, 1) := by decide +kernel
theorem d21_45 : decode jdk_35_method_14_code 45 = .ok (.lload_n 0, 1) := by decide +kernel
theorem d21_46 : decode jdk_35_method_14_code 46 = .ok (.lsub, 1) := by decide +kernel
theorem d21_47 : decode jdk_35_method_14_code 47 = .ok (.l2i, 1) := by decide +kernel
theorem d21_48 : decode jdk_35_method_14_code 48 = .ok (.istore 6, 2) := by decide +kernel
theorem d21_50 : decode jdk_35_method_14_code 50 = .ok (.lload 4, 2) := by decide +kernel
theorem d21_52 : decode jdk_35_method_14_code 52 = .ok (.lstore_n 0, 1) := by decide +kernel
theorem d21_53 : decode jdk_35_method_14_code 53 = .ok (.aload_n 3, 1) := by decide +kernel
theorem d21_54 : decode jdk_35_method_14_code 54 = .ok (.iinc 7 (-1), 3) := by decide +kernel
theorem d21_57 : decode jdk_35_method_14_code 57 = .ok (.iload 7, 2) := by decide +kernel
theorem d21_59 : decode jdk_35_method_14_code 59 = .ok (.getstatic 133, 3) := by decide +kernel
theorem d21_62 : decode jdk_35_method_14_code 62 = .ok (.iload 6, 2) := by decide +kernel
theorem d21_64 : decode jdk_35_method_14_code 64 = .ok (.baload, 1) := by decide +kernel
theorem d21_65 : decode jdk_35_method_14_code 65 = .ok (.bastore, 1) := by decide +kernel
theorem d21_66 : decode jdk_35_method_14_code 66 = .ok (.aload_n 3, 1) := by decide +kernel
theorem d21_67 : decode jdk_35_method_14_code 67 = .ok (.iinc 7 (-1), 3) := by decide +kernel
theorem d21_70 : decode jdk_35_method_14_code 70 = .ok (.iload 7, 2) := by decide +kernel
theorem d21_72 : decode jdk_35_method_14_code 72 = .ok (.getstatic 137, 3) := by decide +kernel
theorem d21_75 : decode jdk_35_method_14_code 75 = .ok (.iload 6, 2) := by decide +kernel
theorem d21_77 : decode jdk_35_method_14_code 77 = .ok (.baload, 1) := by decide +kernel
theorem d21_78 : decode jdk_35_method_14_code 78 = .ok (.bastore, 1) := by decide +kernel
theorem d21_79 : decode jdk_35_method_14_code 79 = .ok (.goto (-55), 3) := by decide +kernel
theorem d21_82 : decode jdk_35_method_14_code 82 = .ok (.lload_n 0, 1) := by decide +kernel
theorem d21_83 : decode jdk_35_method_14_code 83 = .ok (.l2i, 1) := by decide +kernel
theorem d21_84 : decode jdk_35_method_14_code 84 = .ok (.istore 10, 2) := by decide +kernel
theorem d21_86 : decode jdk_35_method_14_code 86 = .ok (.iload 10, 2) := by decide +kernel
theorem d21_88 : decode jdk_35_method_14_code 88 = .ok (.bipush (-100), 2) := by decide +kernel
theorem d21_90 : decode jdk_35_method_14_code 90 = .ok (.if_icmp .gt 53, 3) := by decide +kernel
theorem d21_93 : decode jdk_35_method_14_code 93 = .ok (.iload 10, 2) := by decide +kernel
theorem d21_95 : decode jdk_35_method_14_code 95 = .ok (.bipush 100, 2) := by decide +kernel
theorem d21_97 : decode jdk_35_method_14_code 97 = .ok (.idiv, 1) := by decide +kernel
theorem d21_98 : decode jdk_35_method_14_code 98 = .ok (.istore 9, 2) := by decide +kernel
theorem d21_100 : decode jdk_35_method_14_code 100 = .ok (.iload 9, 2) := by decide +kernel
theorem d21_102 : decode jdk_35_method_14_code 102 = .ok (.bipush 100, 2) := by decide +kernel
theorem d21_104 : decode jdk_35_method_14_code 104 = .ok (.imul, 1) := by decide +kernel
theorem d21_105 : decode jdk_35_method_14_code 105 = .ok (.iload 10, 2) := by decide +kernel
theorem d21_107 : decode jdk_35_method_14_code 107 = .ok (.isub, 1) := by decide +kernel
theorem d21_108 : decode jdk_35_method_14_code 108 = .ok (.istore 6, 2) := by decide +kernel
theorem d21_110 : decode jdk_35_method_14_code 110 = .ok (.iload 9, 2) := by decide +kernel
theorem d21_112 : decode jdk_35_method_14_code 112 = .ok (.istore 10, 2) := by decide +kernel
theorem d21_114 : decode jdk_35_method_14_code 114 = .ok (.aload_n 3, 1) := by decide +kernel
theorem d21_115 : decode jdk_35_method_14_code 115 = .ok (.iinc 7 (-1), 3) := by decide +kernel
theorem d21_118 : decode jdk_35_method_14_code 118 = .ok (.iload 7, 2) := by decide +kernel
theorem d21_120 : decode jdk_35_method_14_code 120 = .ok (.getstatic 133, 3) := by decide +kernel
theorem d21_123 : decode jdk_35_method_14_code 123 = .ok (.iload 6, 2) := by decide +kernel
theorem d21_125 : decode jdk_35_method_14_code 125 = .ok (.baload, 1) := by decide +kernel
theorem d21_126 : decode jdk_35_method_14_code 126 = .ok (.bastore, 1) := by decide +kernel
theorem d21_127 : decode jdk_35_method_14_code 127 = .ok (.aload_n 3, 1) := by decide +kernel
theorem d21_128 : decode jdk_35_method_14_code 128 = .ok (.iinc 7 (-1), 3) := by decide +kernel
theorem d21_131 : decode jdk_35_method_14_code 131 = .ok (.iload 7, 2) := by decide +kernel
theorem d21_133 : decode jdk_35_method_14_code 133 = .ok (.getstatic 137, 3) := by decide +kernel
theorem d21_136 : decode jdk_35_method_14_code 136 = .ok (.iload 6, 2) := by decide +kernel
theorem d21_138 : decode jdk_35_method_14_code 138 = .ok (.baload, 1) := by decide +kernel
theorem d21_139 : decode jdk_35_method_14_code 139 = .ok (.bastore, 1) := by decide +kernel
theorem d21_140 : decode jdk_35_method_14_code 140 = .ok (.goto (-54), 3) := by decide +kernel
theorem d21_143 : decode jdk_35_method_14_code 143 = .ok (.aload_n 3, 1) := by decide +kernel
theorem d21_144 : decode jdk_35_method_14_code 144 = .ok (.iinc 7 (-1), 3) := by decide +kernel
theorem d21_147 : decode jdk_35_method_14_code 147 = .ok (.iload 7, 2) := by decide +kernel
theorem d21_149 : decode jdk_35_method_14_code 149 = .ok (.getstatic 133, 3) := by decide +kernel
theorem d21_152 : decode jdk_35_method_14_code 152 = .ok (.iload 10, 2) := by decide +kernel
theorem d21_154 : decode jdk_35_method_14_code 154 = .ok (.ineg, 1) := by decide +kernel
theorem d21_155 : decode jdk_35_method_14_code 155 = .ok (.baload, 1) := by decide +kernel
theorem d21_156 : decode jdk_35_method_14_code 156 = .ok (.bastore, 1) := by decide +kernel
theorem d21_157 : decode jdk_35_method_14_code 157 = .ok (.iload 10, 2) := by decide +kernel
theorem d21_159 : decode jdk_35_method_14_code 159 = .ok (.bipush (-9), 2) := by decide +kernel
theorem d21_161 : decode jdk_35_method_14_code 161 = .ok (.if_icmp .ge 17, 3) := by decide +kernel
theorem d21_164 : decode jdk_35_method_14_code 164 = .ok (.aload_n 3, 1) := by decide +kernel
theorem d21_165 : decode jdk_35_method_14_code 165 = .ok (.iinc 7 (-1), 3) := by decide +kernel
theorem d21_168 : decode jdk_35_method_14_code 168 = .ok (.iload 7, 2) := by decide +kernel
theorem d21_170 : decode jdk_35_method_14_code 170 = .ok (.getstatic 137, 3) := by decide +kernel
theorem d21_173 : decode jdk_35_method_14_code 173 = .ok (.iload 10, 2) := by decide +kernel
theorem d21_175 : decode jdk_35_method_14_code 175 = .ok (.ineg, 1) := by decide +kernel
theorem d21_176 : decode jdk_35_method_14_code 176 = .ok (.baload, 1) := by decide +kernel
theorem d21_177 : decode jdk_35_method_14_code 177 = .ok (.bastore, 1) := by decide +kernel
theorem d21_178 : decode jdk_35_method_14_code 178 = .ok (.iload 8, 2) := by decide +kernel
theorem d21_180 : decode jdk_35_method_14_code 180 = .ok (.ifCond .eq 12, 3) := by decide +kernel
theorem d21_183 : decode jdk_35_method_14_code 183 = .ok (.aload_n 3, 1) := by decide +kernel
theorem d21_184 : decode jdk_35_method_14_code 184 = .ok (.iinc 7 (-1), 3) := by decide +kernel
theorem d21_187 : decode jdk_35_method_14_code 187 = .ok (.iload 7, 2) := by decide +kernel
theorem d21_189 : decode jdk_35_method_14_code 189 = .ok (.bipush 45, 2) := by decide +kernel
theorem d21_191 : decode jdk_35_method_14_code 191 = .ok (.bastore, 1) := by decide +kernel
theorem d21_192 : decode jdk_35_method_14_code 192 = .ok (.iload 7, 2) := by decide +kernel
theorem d21_194 : decode jdk_35_method_14_code 194 = .ok (.ireturn, 1) := by decide +kernel
theorem pn_21 : plainFor (⟨"java/lang/Long", "getChars", "(JI[B)I"⟩ : MethodName) = true := plainFor_of_name (by first | (simp [plainName, overriddenIn]; done) | decide +kernel)
def own_dig (A t : Nat) : Int32 := Int32.ofNat (48 + A / 10 ^ t % 10)
def own_gi (A ix : Nat) (vs us : List Value) (ps y j : Nat) : Prop :=
  us.length = vs.length ∧ A / 10 ^ j = y ∧ ps + j = ix ∧ ix ≤ vs.length ∧ (∀ t, t < j → us[ix - 1 - t]? = some (.int (own_dig A t))) ∧ us.take ps = vs.take ps ∧ (j = 0 ∨ 1 ≤ y)
theorem own_gi_start {A ix : Nat} {vs : List Value} (h : ix ≤ vs.length) : own_gi A ix vs vs ix A 0 :=
  ⟨rfl, by simp, by omega, h, fun t ht => absurd ht (Nat.not_lt_zero _), rfl, Or.inl rfl⟩
/-- one digit -/
theorem own_gi_step {A ix : Nat} {vs us : List Value} {ps y j : Nat} (h : us.length = vs.length ∧ A / 10 ^ j = y ∧ ps + j = ix ∧ ix ≤ vs.length ∧ (∀ t, t < j → us[ix - 1 - t]? = some (.int (own_dig A t))) ∧ us.take ps = vs.take ps) (hp : 1 ≤ ps) {q : Nat} (hq : q + 1 = ps) {d : Int32} (hd : d = Int32.ofNat (48 + y % 10)) :
    (us.set q (.int d)).length = vs.length ∧ A / 10 ^ (j + 1) = y / 10 ∧ q + (j + 1) = ix ∧ ix ≤ vs.length ∧ (∀ t, t < j + 1 → (us.set q (.int d))[ix - 1 - t]? = some (.int (own_dig A t))) ∧ (us.set q (.int d)).take q = vs.take q := by
  obtain ⟨h1, h2, h3, h4, h5, h6⟩ := h
  refine ⟨by simp [h1], ?_, by omega, h4, ?_, ?_⟩
  · rw [Nat.pow_succ, ← Nat.div_div_eq_div_mul, h2]
  · intro t ht
    by_cases e : t = j
    · subst e
      have e2 : ix - 1 - t = q := by omega
      rw [e2, List.getElem?_set_self (by omega), hd, own_dig, h2]
    · rw [List.getElem?_set_ne (by omega)]
      exact h5 t (by omega)
  · rw [List.take_set_of_le (Nat.le_refl _)]
    have e3 := congrArg (List.take q) h6
    rw [List.take_take, List.take_take, Nat.min_eq_left (by omega)] at e3
    exact e3
theorem own_room {A j k y e : Nat} (hk : own_dgs A k) (h : A / 10 ^ j = y) (hy : 10 ^ e ≤ y) : j + e < k := by
  have q : 10 ^ e * 10 ^ j ≤ A := (Nat.le_div_iff_mul_le (Nat.pow_pos (by decide))).mp (h ▸ hy)
  rw [← Nat.pow_add] at q
  have r : 10 ^ (e + j) < 10 ^ k := Nat.lt_of_le_of_lt q hk.2.1
  have s := (Nat.pow_lt_pow_iff_right (by decide : 1 < 10)).mp r
  omega
theorem own_dgs_end {A j : Nat} (h : A / 10 ^ (j + 1) = 0) (h2 : j = 0 ∨ 1 ≤ A / 10 ^ j) : own_dgs A (j + 1) := by
  refine ⟨by omega, ?_, ?_⟩
  · rcases Nat.lt_or_ge A (10 ^ (j + 1)) with q | q
    · exact q
    · have r : 1 ≤ A / 10 ^ (j + 1) := (Nat.le_div_iff_mul_le (Nat.pow_pos (by decide))).mpr (by omega)
      omega
  · rcases h2 with rfl | h2
    · exact Or.inl rfl
    · right
      have r := (Nat.le_div_iff_mul_le (Nat.pow_pos (by decide))).mp h2
      simpa using r
def own_out (A kk ix : Nat) (ng : Int32) (vs us : List Value) : Prop :=
  us.length = vs.length ∧ (∀ t, t < kk → us[ix - 1 - t]? = some (.int (own_dig A t))) ∧ (ng = 1 → us[ix - 1 - kk]? = some (.int 45)) ∧ us.take (ix - kk - ng.toNatClampNeg) = vs.take (ix - kk - ng.toNatClampNeg)
def own_ones : List Value := (List.range 100).map fun i => .int (Int32.ofNat (48 + i % 10))
def own_tens : List Value := (List.range 100).map fun i => .int (Int32.ofNat (48 + i / 10))
def own_D (Z : State) (d1 : Addr) (ko : ClassId) (d2 : Addr) (kt : ClassId) : Prop :=
  Sta Z Z.heap "java/lang/Integer" "DigitOnes" "[B" (.ref d1) ∧ Arv Z Z.heap d1 ko .byte 100 own_ones (.int 0) ∧ Sta Z Z.heap "java/lang/Integer" "DigitTens" "[B" (.ref d2) ∧ Arv Z Z.heap d2 kt .byte 100 own_tens (.int 0)
theorem own_ones_at {r : Int32} {y : Nat} (h : r.toInt = (y : Int)) (hy : y < 100) : (¬ r < 0 ∧ r < 100) ∧ own_ones.getD r.toNatClampNeg (.int 0) = .int (Int32.ofNat (48 + y % 10)) := by
  have q : (r.toNatClampNeg : Int) = r.toInt := by
    have q := nat_of (j := r) (by rw [Int32.lt_iff_toInt_lt]; show ¬ r.toInt < 0; omega)
    omega
  have e : r.toNatClampNeg = y := by omega
  refine ⟨⟨by rw [Int32.lt_iff_toInt_lt]; show ¬ r.toInt < 0; omega, by rw [Int32.lt_iff_toInt_lt]; show r.toInt < 100; omega⟩, ?_⟩
  rw [e]; simp [own_ones, hy]
theorem own_tens_at {r : Int32} {y : Nat} (h : r.toInt = (y : Int)) (hy : y < 100) : (¬ r < 0 ∧ r < 100) ∧ own_tens.getD r.toNatClampNeg (.int 0) = .int (Int32.ofNat (48 + y / 10)) := by
  have q : (r.toNatClampNeg : Int) = r.toInt := by
    have q := nat_of (j := r) (by rw [Int32.lt_iff_toInt_lt]; show ¬ r.toInt < 0; omega)
    omega
  have e : r.toNatClampNeg = y := by omega
  refine ⟨⟨by rw [Int32.lt_iff_toInt_lt]; show ¬ r.toInt < 0; omega, by rw [Int32.lt_iff_toInt_lt]; show r.toInt < 100; omega⟩, ?_⟩
  rw [e]; simp [own_tens, hy]
theorem own_dnar {n : Nat} (h : n < 10) : nar .byte (Int32.ofNat (48 + n)) = Int32.ofNat (48 + n) := by
  have : n = 0 ∨ n = 1 ∨ n = 2 ∨ n = 3 ∨ n = 4 ∨ n = 5 ∨ n = 6 ∨ n = 7 ∨ n = 8 ∨ n = 9 := by omega
  rcases this with rfl | rfl | rfl | rfl | rfl | rfl | rfl | rfl | rfl | rfl <;> rfl
/-- the loops' division: x = -y, q = x / 100, r = q * 100 - x -/
theorem own_d100I {x q r : Int32} {y : Nat} (hx : x.toInt = -(y : Int)) (hq : q = x / 100) (hr : r = q * 100 - x) : q.toInt = -((y / 100 : Nat) : Int) ∧ r.toInt = ((y % 100 : Nat) : Int) := by
  have a := c_idiv x 100 100 (by decide) (by decide)
  have b := rng32 x
  have hq2 : q.toInt = -((y / 100 : Nat) : Int) := by rw [hq]; omega
  have c1 := c_imul q 100
  have c2 := rng32 (q * 100)
  have c3 := c_isub (q * 100) x
  have c4 := rng32 (q * 100 - x)
  have e : (100 : Int32).toInt = 100 := rfl
  rw [e] at c1
  exact ⟨hq2, by rw [hr]; omega⟩
theorem own_d100J {x q : Int64} {r : Int32} {y : Nat} (hx : x.toInt = -(y : Int)) (hq : q = x / 100) (hr : r = (q * 100 - x).toInt32) : q.toInt = -((y / 100 : Nat) : Int) ∧ r.toInt = ((y % 100 : Nat) : Int) := by
  have a := c_ldiv x 100 100 (by decide) (by decide)
  have b := rng64 x
  have hq2 : q.toInt = -((y / 100 : Nat) : Int) := by rw [hq]; omega
  have c1 := c_lmul q 100
  have c2 := rng64 (q * 100)
  have c3 := c_lsub (q * 100) x
  have c4 := rng64 (q * 100 - x)
  have e : (100 : Int64).toInt = 100 := rfl
  rw [e] at c1
  have c5 : (q * 100 - x).toInt = ((y % 100 : Nat) : Int) := by omega
  have c6 := c_l2i (q * 100 - x)
  have c7 := rng32 (q * 100 - x).toInt32
  exact ⟨hq2, by rw [hr]; omega⟩
theorem own_out0 {A ix : Nat} {ng : Int32} {vs us : List Value} {q y j kk : Nat} (g : us.length = vs.length ∧ A / 10 ^ j = y ∧ q + j = ix ∧ ix ≤ vs.length ∧ (∀ t, t < j → us[ix - 1 - t]? = some (.int (own_dig A t))) ∧ us.take q = vs.take q) (hk : kk = j) (hn : ng = 0) : own_out A kk ix ng vs us := by
  subst hk hn
  obtain ⟨g1, g2, g3, g4, g5, g6⟩ := g
  refine ⟨g1, g5, fun e => absurd e (by decide), ?_⟩
  have e : ix - kk - Int32.toNatClampNeg 0 = q := by show ix - kk - 0 = q; omega
  rw [e]; exact g6
theorem own_out1 {A ix : Nat} {ng : Int32} {vs us : List Value} {q y j kk r : Nat} (g : us.length = vs.length ∧ A / 10 ^ j = y ∧ q + j = ix ∧ ix ≤ vs.length ∧ (∀ t, t < j → us[ix - 1 - t]? = some (.int (own_dig A t))) ∧ us.take q = vs.take q) (hk : kk = j) (hn : ng = 1) (hr : r + 1 = q) : own_out A kk ix ng vs (us.set r (.int (nar .byte (45 : Int32)))) := by
  subst hk hn
  obtain ⟨g1, g2, g3, g4, g5, g6⟩ := g
  have e0 : nar .byte (45 : Int32) = 45 := by decide
  rw [e0]
  refine ⟨by simp [g1], ?_, ?_, ?_⟩
  · intro t ht
    rw [List.getElem?_set_ne (by omega)]
    exact g5 t ht
  · intro _
    have e : ix - 1 - kk = r := by omega
    rw [e, List.getElem?_set_self (by omega)]
  · have e : ix - kk - Int32.toNatClampNeg 1 = r := by show ix - kk - 1 = r; omega
    rw [e, List.take_set_of_le (Nat.le_refl _)]
    have e3 := congrArg (List.take r) g6
    rw [List.take_take, List.take_take, Nat.min_eq_left (by omega)] at e3
    exact e3
def own_num (A kk : Nat) (ng : Int32) : List Value := (if ng = 1 then [.int (45 : Int32)] else []) ++ (List.range kk).map fun i => .int (own_dig A (kk - 1 - i))
theorem own_num_len {A kk : Nat} {ng : Int32} (h : ng = 0 ∨ ng = 1) : (own_num A kk ng).length = kk + ng.toNatClampNeg := by
  rcases h with rfl | rfl
  · simp [own_num]
  · simp only [own_num, if_pos rfl, List.length_append, List.length_cons, List.length_nil, List.length_map, List.length_range]; show 0 + 1 + kk = kk + 1; omega
theorem own_digs {A kk ix : Nat} {us : List Value} (h : ∀ t, t < kk → us[ix - 1 - t]? = some (.int (own_dig A t))) {c : Nat} (hc : c + kk = ix) : (us.take ix).drop c = (List.range kk).map fun i => .int (own_dig A (kk - 1 - i)) := by
  apply List.ext_getElem?
  intro i
  rw [List.getElem?_drop, List.getElem?_take, List.getElem?_map]
  by_cases hi : i < kk
  · have e : c + i = ix - 1 - (kk - 1 - i) := by omega
    rw [if_pos (by omega), e, h _ (by omega), List.getElem?_range hi]
    rfl
  · rw [if_neg (by omega), List.getElem?_eq_none (by rw [List.length_range]; omega)]
    rfl
theorem own_out_take {A kk ix cn : Nat} {ng : Int32} {vs us : List Value} (h : own_out A kk ix ng vs us) (hn : ng = 0 ∨ ng = 1) (hx : ix = cn + kk + ng.toNatClampNeg) (hl : ix ≤ vs.length) : us.take ix = vs.take cn ++ own_num A kk ng := by
  obtain ⟨h1, h2, h3, h4⟩ := h
  have e : ix - kk - ng.toNatClampNeg = cn := by omega
  rw [e] at h4
  have hd := own_digs h2 (c := cn + ng.toNatClampNeg) (by omega)
  rw [own_num, ← hd, ← h4]
  rcases hn with rfl | rfl
  · have e0 : Int32.toNatClampNeg 0 = 0 := rfl
    rw [if_neg (by decide), List.nil_append, e0]
    have q := (List.take_append_drop cn (us.take ix)).symm
    rw [List.take_take, Nat.min_eq_left (by omega)] at q
    exact q
  · have e0 : Int32.toNatClampNeg 1 = 1 := rfl
    rw [e0] at hx hd ⊢
    rw [if_pos rfl, ← List.append_assoc]
    have q := (List.take_append_drop (cn + 1) (us.take ix)).symm
    rw [List.take_take, Nat.min_eq_left (by omega)] at q
    have e3 : us.take (cn + 1) = us.take cn ++ [.int (45 : Int32)] := by
      have e4 : ix - 1 - kk = cn := by omega
      have r := h3 rfl
      rw [e4] at r
      rw [List.take_add_one, r]
      rfl
    rw [e3] at q
    exact q
theorem own_dgs_le {a k : Nat} (h : own_dgs a k) (ha : a ≤ 9223372036854775808) : k ≤ 19 := by
  rcases h.2.2 with q | q
  · omega
  · have r : 10 ^ (k - 1) < 10 ^ 19 := Nat.lt_of_le_of_lt q (Nat.lt_of_le_of_lt ha (by decide))
    have s := (Nat.pow_lt_pow_iff_right (by decide : 1 < 10)).mp r
    omega

def own_s4 : Option Int64 → Slot | none => .unset | some v => .val (.long v)
def own_s5 : Option Int64 → Slot | none => .unset | some _ => .second
def own_s6 : Option Int32 → Slot | none => .unset | some v => .val (.int v)

set_option maxRecDepth 65536 in
set_option maxHeartbeats 4000000 in
theorem gcT {p : Program} {l : Launch} {e : Env} {R : Room} {s : State} {m : MethodId} {args : Array Value} {below : List Frame} {meth : Method} {c : Code} {Z : State} {a0 : Array Value} (hw : ∀ d ∈ tables_1, d.before a0 Z = true) (hx : p.tables.exec = Jvm.exec) (hby : c.code = jdk_35_method_14_code) (hml : c.maxLocals = 11) (hret : meth.sig.returnType = some .int) (hlk : meth.locks = false) (hown : s.vm.findClass "java/lang/Long" = some m.cls) (hZ : Z.Warmed39 s.vm) (n0 : Nat) (h0 : Heap) (d : Addr) (kd : ClassId) (cap : Int32) (vs : List Value) (A kk : Nat) (ix ng : Int32) (da db : Addr) (ko kt : ClassId) (hD : own_D Z da ko db kt) (hkk : own_dgs A kk) (g_d : n0 ≤ d) (hng : ng = 0 ∨ ng = 1) (hix : 0 ≤ ix.toInt ∧ ix.toInt ≤ cap.toInt ∧ cap.toInt ≤ 1000 ∧ (kk : Int) + ng.toInt ≤ ix.toInt) (hlen : vs.length = cap.toNatClampNeg) (xl : Int64) (o4 : Option Int64) (o6 o9 : Option Int32) :
    ∀ (yy : Nat) (T0 : State) (hh : Heap) (lc : List Loc) (us : List Value) (X0 : Stand p l e R s m args below meth c T0 lc 0 0) (e0 : T0.heap = hh) (N0 : Fr n0 lc) (K0 : Keep h0 hh [d]) (O0 : own_Old Z n0 hh) (z0 : n0 ≤ hh.size) (V0 : Arv Z hh d kd .byte cap us (.int (0 : Int32))) (jj : Nat) (ps : Int32) (hgi : own_gi A ix.toNatClampNeg vs us ps.toNatClampNeg yy jj) (hps : 0 ≤ ps.toInt ∧ ps.toInt ≤ ix.toInt) (i2 : Int32) (hi2 : i2.toInt = -(yy : Int)) (hy : yy < 100), own_WP p e below (FrameEnd s) (fun v h L => ∃ (z : Int32) (us : List Value), v = some (.int z) ∧ Fr n0 L ∧ Keep h0 h [d] ∧ Arv Z h d kd .byte cap us (.int (0 : Int32)) ∧ own_out A kk ix.toNatClampNeg ng vs us) 0 0 (T0.setTop (mkF m 143 #[.val (.long xl), .second, .val (.int ix), .val (.ref d), (own_s4 o4), (own_s5 o4), (own_s6 o6), .val (.int ps), .val (.int ng), (own_s6 o9), .val (.int i2)] [])) := by
  intro yy T0 hh lc us X0 e0 N0 K0 O0 z0 V0 jj ps hgi hps i2 hi2 hy
  have hneg : (-i2).toInt = (yy : Int) := by have q := c_ineg i2; have r := rng32 (-i2); omega
  obtain ⟨a1, a2, a3, a4, a5, a6, a7⟩ := hgi
  have hnx := own_nat (x := ix) (by omega)
  have hnp := own_nat (x := ps) (by omega)
  have hnc := own_nat (x := cap) (by omega)
  have hngr : ng.toInt = 0 ∨ ng.toInt = 1 := hng.elim (fun q => Or.inl (by rw [q]; rfl)) (fun q => Or.inr (by rw [q]; rfl))
  have hroom : jj + 1 ≤ kk := a7.elim (fun q => by have := hkk.1; omega) (fun q => by have := own_room (e := 0) hkk a2 (by simpa using q); omega)
  refine own_aloadN (pc' := 144) X0 hx (hb hby d21_143) rfl rfl rfl ?_
  obtain ⟨v1, hv1⟩ : ∃ z : Int32, z = (ps + (-1 : Int32)) := ⟨_, rfl⟩
  refine own_iinc (pc' := 147) (l' := #[.val (.long xl), .second, .val (.int ix), .val (.ref d), (own_s4 o4), (own_s5 o4), (own_s6 o6), .val (.int v1), .val (.int ng), (own_s6 o9), .val (.int i2)]) X0 hx (hb hby d21_144) rfl hv1 rfl rfl ?_
  refine own_iload (pc' := 149) X0 hx (hb hby d21_147) rfl rfl ?_
  refine own_getS (pc' := 152) X0 hx hZ hown (host := "") (Or.inl (own_w hw 134 rfl)) Via.refl e0 (hD.1.ext O0.x) (hb hby d21_149) rfl ?_
  intro T2 X2 e2
  refine own_iload (pc' := 154) X2 hx (hb hby d21_152) rfl rfl ?_
  refine own_ineg (pc' := 155) X2 hx (hb hby d21_154) rfl ?_
  refine own_baload (pc' := 156) (v := (.int (Int32.ofNat (48 + yy % 10)))) X2 hx hZ e2 (hD.2.1.ext O0.x) (own_ones_at hneg hy).1 (own_ones_at hneg hy).2 (hb hby d21_155) rfl ?_
  obtain ⟨v4, hv4⟩ : ∃ z : Int32, z = (Int32.ofNat (48 + yy % 10)) := ⟨_, rfl⟩
  rw [← hv4]
  have hq5 : v1.toInt = ps.toInt - 1 := by have q := own_add hv1 (by omega) (by decide); have e : (-1 : Int32).toInt = -1 := rfl; omega
  have hn5 := own_nat (x := v1) (by omega)
  refine own_bastore (pc' := 157) X2 hx hZ e2 V0 ⟨own_nn (by omega), by rw [Int32.lt_iff_toInt_lt]; omega⟩ v1.toNatClampNeg rfl (by first | omega | (simp only [List.length_set]; omega)) (hb hby d21_156) rfl ?_
  intro T3 h3 X3 e3 W3 V3
  have o3 : own_Old Z n0 h3 := O0.wr W3 g_d
  have N3 := Fr.snoc X3 N0 g_d
  have K3 : Keep h0 h3 [d] := K0.wr W3 (Or.inl (List.mem_of_getElem? (i := 0) rfl))
  have g1 := own_gi_step (d := nar .byte v4) (q := v1.toNatClampNeg) ⟨a1, a2, a3, a4, a5, a6⟩ (by omega) (by omega) (by rw [hv4]; exact own_dnar (Nat.mod_lt _ (by decide)))
  refine own_iload (pc' := 159) X3 hx (hb hby d21_157) rfl rfl ?_
  refine own_bipush (pc' := 161) X3 hx (-9 : Int32) (hb hby d21_159) rfl rfl ?_
  refine own_icmp_ge (pt := 178) (pf := 164) X3 hx (hb hby d21_161) rfl (by decide) rfl (fun hc161 => ?_) (fun hc161 => ?_)
  · skip
    have hc9 : ¬ i2.toInt < -9 := by rw [Int32.lt_iff_toInt_lt] at hc161; exact hc161
    have hkj : kk = jj + 1 := own_dgs_uniq hkk (own_dgs_end (by rw [g1.2.1]; omega) (a7.elim Or.inl (fun q => Or.inr (by rw [a2]; exact q))))
    refine own_iload (pc' := 180) X3 hx (hb hby d21_178) rfl rfl ?_
    refine own_if_eq (pt := 192) (pf := 183) X3 hx (hb hby d21_180) rfl (by decide) rfl (fun hc180 => ?_) (fun hc180 => ?_)
    · skip
      refine own_iload (pc' := 194) X3 hx (hb hby d21_192) rfl rfl ?_
      refine own_retI X3 hx (fun _ _ _ _ q => q) hlk hret (hb hby d21_194) (by decide) (by decide) ?_
      rw [e3]
      refine ⟨_, _, rfl, N3, K3, V3, ?_⟩
      exact own_out0 g1 hkj hc180
    · skip
      have hng1 : ng = 1 := hng.elim (fun q => absurd q hc180) id
      have hngi : ng.toInt = 1 := by rw [hng1]; rfl
      refine own_aloadN (pc' := 184) X3 hx (hb hby d21_183) rfl rfl rfl ?_
      obtain ⟨v6, hv6⟩ : ∃ z : Int32, z = (v1 + (-1 : Int32)) := ⟨_, rfl⟩
      refine own_iinc (pc' := 187) (l' := #[.val (.long xl), .second, .val (.int ix), .val (.ref d), (own_s4 o4), (own_s5 o4), (own_s6 o6), .val (.int v6), .val (.int ng), (own_s6 o9), .val (.int i2)]) X3 hx (hb hby d21_184) rfl hv6 rfl rfl ?_
      refine own_iload (pc' := 189) X3 hx (hb hby d21_187) rfl rfl ?_
      refine own_bipush (pc' := 191) X3 hx (45 : Int32) (hb hby d21_189) rfl rfl ?_
      have hq8 : v6.toInt = v1.toInt - 1 := by have q := own_add hv6 (by omega) (by decide); have e : (-1 : Int32).toInt = -1 := rfl; omega
      have hn8 := own_nat (x := v6) (by omega)
      refine own_bastore (pc' := 192) X3 hx hZ e3 V3 ⟨own_nn (by omega), by rw [Int32.lt_iff_toInt_lt]; omega⟩ v6.toNatClampNeg rfl (by first | omega | (simp only [List.length_set]; omega)) (hb hby d21_191) rfl ?_
      intro T7 h7 X7 e7 W7 V7
      have N7 := Fr.snoc X7 N3 g_d
      have K7 : Keep h0 h7 [d] := K3.wr W7 (Or.inl (List.mem_of_getElem? (i := 0) rfl))
      refine own_iload (pc' := 194) X7 hx (hb hby d21_192) rfl rfl ?_
      refine own_retI X7 hx (fun _ _ _ _ q => q) hlk hret (hb hby d21_194) (by decide) (by decide) ?_
      rw [e7]
      refine ⟨_, _, rfl, N7, K7, V7, ?_⟩
      exact own_out1 g1 hkj hng1 (by omega)
  · skip
    have hc9 : i2.toInt < -9 := by rw [Int32.lt_iff_toInt_lt] at hc161; exact hc161
    have hroom2 : jj + 1 + 1 ≤ kk := by have := own_room (e := 1) hkk a2 (by omega); omega
    refine own_aloadN (pc' := 165) X3 hx (hb hby d21_164) rfl rfl rfl ?_
    obtain ⟨v9, hv9⟩ : ∃ z : Int32, z = (v1 + (-1 : Int32)) := ⟨_, rfl⟩
    refine own_iinc (pc' := 168) (l' := #[.val (.long xl), .second, .val (.int ix), .val (.ref d), (own_s4 o4), (own_s5 o4), (own_s6 o6), .val (.int v9), .val (.int ng), (own_s6 o9), .val (.int i2)]) X3 hx (hb hby d21_165) rfl hv9 rfl rfl ?_
    refine own_iload (pc' := 170) X3 hx (hb hby d21_168) rfl rfl ?_
    refine own_getS (pc' := 173) X3 hx hZ hown (host := "") (Or.inl (own_w hw 298 rfl)) Via.refl e3 (hD.2.2.1.ext o3.x) (hb hby d21_170) rfl ?_
    intro T10 X10 e10
    refine own_iload (pc' := 175) X10 hx (hb hby d21_173) rfl rfl ?_
    refine own_ineg (pc' := 176) X10 hx (hb hby d21_175) rfl ?_
    refine own_baload (pc' := 177) (v := (.int (Int32.ofNat (48 + yy / 10)))) X10 hx hZ e10 (hD.2.2.2.ext o3.x) (own_tens_at hneg hy).1 (own_tens_at hneg hy).2 (hb hby d21_176) rfl ?_
    obtain ⟨v12, hv12⟩ : ∃ z : Int32, z = (Int32.ofNat (48 + yy / 10)) := ⟨_, rfl⟩
    rw [← hv12]
    have hq13 : v9.toInt = v1.toInt - 1 := by have q := own_add hv9 (by omega) (by decide); have e : (-1 : Int32).toInt = -1 := rfl; omega
    have hn13 := own_nat (x := v9) (by omega)
    refine own_bastore (pc' := 178) X10 hx hZ e10 V3 ⟨own_nn (by omega), by rw [Int32.lt_iff_toInt_lt]; omega⟩ v9.toNatClampNeg rfl (by first | omega | (simp only [List.length_set]; omega)) (hb hby d21_177) rfl ?_
    intro T11 h11 X11 e11 W11 V11
    have N11 := Fr.snoc X11 N3 g_d
    have K11 : Keep h0 h11 [d] := K3.wr W11 (Or.inl (List.mem_of_getElem? (i := 0) rfl))
    have g2 := own_gi_step (d := nar .byte v12) (q := v9.toNatClampNeg) g1 (by omega) (by omega) (by rw [hv12, own_dnar (by omega)]; congr 1; omega)
    have hkj : kk = jj + 1 + 1 := own_dgs_uniq hkk (own_dgs_end (by rw [g2.2.1]; omega) (Or.inr (by rw [g1.2.1]; omega)))
    refine own_iload (pc' := 180) X11 hx (hb hby d21_178) rfl rfl ?_
    refine own_if_eq (pt := 192) (pf := 183) X11 hx (hb hby d21_180) rfl (by decide) rfl (fun hc180 => ?_) (fun hc180 => ?_)
    · skip
      refine own_iload (pc' := 194) X11 hx (hb hby d21_192) rfl rfl ?_
      refine own_retI X11 hx (fun _ _ _ _ q => q) hlk hret (hb hby d21_194) (by decide) (by decide) ?_
      rw [e11]
      refine ⟨_, _, rfl, N11, K11, V11, ?_⟩
      exact own_out0 g2 hkj hc180
    · skip
      have hng1 : ng = 1 := hng.elim (fun q => absurd q hc180) id
      have hngi : ng.toInt = 1 := by rw [hng1]; rfl
      refine own_aloadN (pc' := 184) X11 hx (hb hby d21_183) rfl rfl rfl ?_
      obtain ⟨v14, hv14⟩ : ∃ z : Int32, z = (v9 + (-1 : Int32)) := ⟨_, rfl⟩
      refine own_iinc (pc' := 187) (l' := #[.val (.long xl), .second, .val (.int ix), .val (.ref d), (own_s4 o4), (own_s5 o4), (own_s6 o6), .val (.int v14), .val (.int ng), (own_s6 o9), .val (.int i2)]) X11 hx (hb hby d21_184) rfl hv14 rfl rfl ?_
      refine own_iload (pc' := 189) X11 hx (hb hby d21_187) rfl rfl ?_
      refine own_bipush (pc' := 191) X11 hx (45 : Int32) (hb hby d21_189) rfl rfl ?_
      have hq16 : v14.toInt = v9.toInt - 1 := by have q := own_add hv14 (by omega) (by decide); have e : (-1 : Int32).toInt = -1 := rfl; omega
      have hn16 := own_nat (x := v14) (by omega)
      refine own_bastore (pc' := 192) X11 hx hZ e11 V11 ⟨own_nn (by omega), by rw [Int32.lt_iff_toInt_lt]; omega⟩ v14.toNatClampNeg rfl (by first | omega | (simp only [List.length_set]; omega)) (hb hby d21_191) rfl ?_
      intro T15 h15 X15 e15 W15 V15
      have N15 := Fr.snoc X15 N11 g_d
      have K15 : Keep h0 h15 [d] := K11.wr W15 (Or.inl (List.mem_of_getElem? (i := 0) rfl))
      refine own_iload (pc' := 194) X15 hx (hb hby d21_192) rfl rfl ?_
      refine own_retI X15 hx (fun _ _ _ _ q => q) hlk hret (hb hby d21_194) (by decide) (by decide) ?_
      rw [e15]
      refine ⟨_, _, rfl, N15, K15, V15, ?_⟩
      exact own_out1 g2 hkj hng1 (by omega)
set_option maxRecDepth 65536 in
set_option maxHeartbeats 4000000 in
theorem gc2 {p : Program} {l : Launch} {e : Env} {R : Room} {s : State} {m : MethodId} {args : Array Value} {below : List Frame} {meth : Method} {c : Code} {Z : State} {a0 : Array Value} (hw : ∀ d ∈ tables_1, d.before a0 Z = true) (hx : p.tables.exec = Jvm.exec) (hby : c.code = jdk_35_method_14_code) (hml : c.maxLocals = 11) (hret : meth.sig.returnType = some .int) (hlk : meth.locks = false) (hown : s.vm.findClass "java/lang/Long" = some m.cls) (hZ : Z.Warmed39 s.vm) (n0 : Nat) (h0 : Heap) (d : Addr) (kd : ClassId) (cap : Int32) (vs : List Value) (A kk : Nat) (ix ng : Int32) (da db : Addr) (ko kt : ClassId) (hD : own_D Z da ko db kt) (hkk : own_dgs A kk) (g_d : n0 ≤ d) (hng : ng = 0 ∨ ng = 1) (hix : 0 ≤ ix.toInt ∧ ix.toInt ≤ cap.toInt ∧ cap.toInt ≤ 1000 ∧ (kk : Int) + ng.toInt ≤ ix.toInt) (hlen : vs.length = cap.toNatClampNeg) (xl : Int64) (o4 : Option Int64) :
    ∀ (yy : Nat) (o6 o9 : Option Int32) (T0 : State) (hh : Heap) (lc : List Loc) (us : List Value) (X0 : Stand p l e R s m args below meth c T0 lc 0 0) (e0 : T0.heap = hh) (N0 : Fr n0 lc) (K0 : Keep h0 hh [d]) (O0 : own_Old Z n0 hh) (z0 : n0 ≤ hh.size) (V0 : Arv Z hh d kd .byte cap us (.int (0 : Int32))) (jj : Nat) (ps : Int32) (hgi : own_gi A ix.toNatClampNeg vs us ps.toNatClampNeg yy jj) (hps : 0 ≤ ps.toInt ∧ ps.toInt ≤ ix.toInt) (i2 : Int32) (hi2 : i2.toInt = -(yy : Int)), own_WP p e below (FrameEnd s) (fun v h L => ∃ (z : Int32) (us : List Value), v = some (.int z) ∧ Fr n0 L ∧ Keep h0 h [d] ∧ Arv Z h d kd .byte cap us (.int (0 : Int32)) ∧ own_out A kk ix.toNatClampNeg ng vs us) 0 0 (T0.setTop (mkF m 86 #[.val (.long xl), .second, .val (.int ix), .val (.ref d), (own_s4 o4), (own_s5 o4), (own_s6 o6), .val (.int ps), .val (.int ng), (own_s6 o9), .val (.int i2)] [])) := by
  intro yy
  induction yy using Nat.strongRecOn with | _ yy ih => ?_
  intro o6 o9 T0 hh lc us X0 e0 N0 K0 O0 z0 V0 jj ps hgi hps i2 hi2
  refine own_iload (pc' := 88) X0 hx (hb hby d21_86) rfl rfl ?_
  refine own_bipush (pc' := 90) X0 hx (-100 : Int32) (hb hby d21_88) rfl rfl ?_
  refine own_icmp_gt (pt := 143) (pf := 93) X0 hx (hb hby d21_90) rfl (by decide) rfl (fun hc90 => ?_) (fun hc90 => ?_)
  · skip
    have hy : yy < 100 := by rw [Int32.lt_iff_toInt_lt] at hc90; have hc90 : (-100 : Int) < i2.toInt := hc90; omega
    exact gcT hw hx hby hml hret hlk hown hZ n0 h0 d kd cap vs A kk ix ng da db ko kt hD hkk g_d hng hix hlen xl o4 o6 o9 yy T0 hh lc us X0 e0 N0 K0 O0 z0 V0 jj ps hgi hps i2 hi2 hy
  · skip
    have hge : 100 ≤ yy := by rw [Int32.lt_iff_toInt_lt] at hc90; have hc90 : ¬ (-100 : Int) < i2.toInt := hc90; omega
    obtain ⟨a1, a2, a3, a4, a5, a6, a7⟩ := hgi
    have hnx := own_nat (x := ix) (by omega)
    have hnp := own_nat (x := ps) (by omega)
    have hnc := own_nat (x := cap) (by omega)
    have hngr : ng.toInt = 0 ∨ ng.toInt = 1 := hng.elim (fun q => Or.inl (by rw [q]; rfl)) (fun q => Or.inr (by rw [q]; rfl))
    have hroom : jj + 3 ≤ kk := by have := own_room (e := 2) hkk a2 (by omega); omega
    refine own_iload (pc' := 95) X0 hx (hb hby d21_93) rfl rfl ?_
    refine own_bipush (pc' := 97) X0 hx (100 : Int32) (hb hby d21_95) rfl rfl ?_
    refine own_idiv (pc' := 98) X0 hx (hb hby d21_97) (by decide) rfl ?_
    obtain ⟨v1, hv1⟩ : ∃ z : Int32, z = (i2 / (100 : Int32)) := ⟨_, rfl⟩
    refine own_istore (pc' := 100) (l' := #[.val (.long xl), .second, .val (.int ix), .val (.ref d), (own_s4 o4), (own_s5 o4), (own_s6 o6), .val (.int ps), .val (.int ng), .val (.int v1), .val (.int i2)]) X0 hx (hb hby d21_98) hv1 (by cases o9 <;> rfl) rfl ?_
    refine own_iload (pc' := 102) X0 hx (hb hby d21_100) rfl rfl ?_
    refine own_bipush (pc' := 104) X0 hx (100 : Int32) (hb hby d21_102) rfl rfl ?_
    refine own_imul (pc' := 105) X0 hx (hb hby d21_104) rfl ?_
    refine own_iload (pc' := 107) X0 hx (hb hby d21_105) rfl rfl ?_
    refine own_isub (pc' := 108) X0 hx (hb hby d21_107) rfl ?_
    obtain ⟨v2, hv2⟩ : ∃ z : Int32, z = ((v1 * (100 : Int32)) - i2) := ⟨_, rfl⟩
    refine own_istore (pc' := 110) (l' := #[.val (.long xl), .second, .val (.int ix), .val (.ref d), (own_s4 o4), (own_s5 o4), .val (.int v2), .val (.int ps), .val (.int ng), .val (.int v1), .val (.int i2)]) X0 hx (hb hby d21_108) hv2 (by cases o6 <;> rfl) rfl ?_
    have hd6 := own_d100I (y := yy) hi2 hv1 hv2
    refine own_iload (pc' := 112) X0 hx (hb hby d21_110) rfl rfl ?_
    refine own_istore (pc' := 114) (l' := #[.val (.long xl), .second, .val (.int ix), .val (.ref d), (own_s4 o4), (own_s5 o4), .val (.int v2), .val (.int ps), .val (.int ng), .val (.int v1), .val (.int v1)]) X0 hx (hb hby d21_112) rfl rfl rfl ?_
    refine own_aloadN (pc' := 115) X0 hx (hb hby d21_114) rfl rfl rfl ?_
    obtain ⟨v3, hv3⟩ : ∃ z : Int32, z = (ps + (-1 : Int32)) := ⟨_, rfl⟩
    refine own_iinc (pc' := 118) (l' := #[.val (.long xl), .second, .val (.int ix), .val (.ref d), (own_s4 o4), (own_s5 o4), .val (.int v2), .val (.int v3), .val (.int ng), .val (.int v1), .val (.int v1)]) X0 hx (hb hby d21_115) rfl hv3 rfl rfl ?_
    refine own_iload (pc' := 120) X0 hx (hb hby d21_118) rfl rfl ?_
    refine own_getS (pc' := 123) X0 hx hZ hown (host := "") (Or.inl (own_w hw 134 rfl)) Via.refl e0 (hD.1.ext O0.x) (hb hby d21_120) rfl ?_
    intro T4 X4 e4
    refine own_iload (pc' := 125) X4 hx (hb hby d21_123) rfl rfl ?_
    refine own_baload (pc' := 126) (v := (.int (Int32.ofNat (48 + (yy % 100) % 10)))) X4 hx hZ e4 (hD.2.1.ext O0.x) (own_ones_at hd6.2 (Nat.mod_lt _ (by decide))).1 (own_ones_at hd6.2 (Nat.mod_lt _ (by decide))).2 (hb hby d21_125) rfl ?_
    obtain ⟨v6, hv6⟩ : ∃ z : Int32, z = (Int32.ofNat (48 + (yy % 100) % 10)) := ⟨_, rfl⟩
    rw [← hv6]
    have hq7 : v3.toInt = ps.toInt - 1 := by have q := own_add hv3 (by omega) (by decide); have e : (-1 : Int32).toInt = -1 := rfl; omega
    have hn7 := own_nat (x := v3) (by omega)
    refine own_bastore (pc' := 127) X4 hx hZ e4 V0 ⟨own_nn (by omega), by rw [Int32.lt_iff_toInt_lt]; omega⟩ v3.toNatClampNeg rfl (by first | omega | (simp only [List.length_set]; omega)) (hb hby d21_126) rfl ?_
    intro T5 h5 X5 e5 W5 V5
    have o5 : own_Old Z n0 h5 := O0.wr W5 g_d
    have z5 : n0 ≤ h5.size := Nat.le_trans z0 (Keep.of_wr W5).1
    have N5 := Fr.snoc X5 N0 g_d
    have K5 : Keep h0 h5 [d] := K0.wr W5 (Or.inl (List.mem_of_getElem? (i := 0) rfl))
    refine own_aloadN (pc' := 128) X5 hx (hb hby d21_127) rfl rfl rfl ?_
    obtain ⟨v8, hv8⟩ : ∃ z : Int32, z = (v3 + (-1 : Int32)) := ⟨_, rfl⟩
    refine own_iinc (pc' := 131) (l' := #[.val (.long xl), .second, .val (.int ix), .val (.ref d), (own_s4 o4), (own_s5 o4), .val (.int v2), .val (.int v8), .val (.int ng), .val (.int v1), .val (.int v1)]) X5 hx (hb hby d21_128) rfl hv8 rfl rfl ?_
    refine own_iload (pc' := 133) X5 hx (hb hby d21_131) rfl rfl ?_
    refine own_getS (pc' := 136) X5 hx hZ hown (host := "") (Or.inl (own_w hw 298 rfl)) Via.refl e5 (hD.2.2.1.ext o5.x) (hb hby d21_133) rfl ?_
    intro T9 X9 e9
    refine own_iload (pc' := 138) X9 hx (hb hby d21_136) rfl rfl ?_
    refine own_baload (pc' := 139) (v := (.int (Int32.ofNat (48 + (yy % 100) / 10)))) X9 hx hZ e9 (hD.2.2.2.ext o5.x) (own_tens_at hd6.2 (Nat.mod_lt _ (by decide))).1 (own_tens_at hd6.2 (Nat.mod_lt _ (by decide))).2 (hb hby d21_138) rfl ?_
    obtain ⟨v11, hv11⟩ : ∃ z : Int32, z = (Int32.ofNat (48 + (yy % 100) / 10)) := ⟨_, rfl⟩
    rw [← hv11]
    have hq12 : v8.toInt = v3.toInt - 1 := by have q := own_add hv8 (by omega) (by decide); have e : (-1 : Int32).toInt = -1 := rfl; omega
    have hn12 := own_nat (x := v8) (by omega)
    refine own_bastore (pc' := 140) X9 hx hZ e9 V5 ⟨own_nn (by omega), by rw [Int32.lt_iff_toInt_lt]; omega⟩ v8.toNatClampNeg rfl (by first | omega | (simp only [List.length_set]; omega)) (hb hby d21_139) rfl ?_
    intro T10 h10 X10 e10 W10 V10
    have o10 : own_Old Z n0 h10 := o5.wr W10 g_d
    have z10 : n0 ≤ h10.size := Nat.le_trans z5 (Keep.of_wr W10).1
    have N10 := Fr.snoc X10 N5 g_d
    have K10 : Keep h0 h10 [d] := K5.wr W10 (Or.inl (List.mem_of_getElem? (i := 0) rfl))
    refine own_goto (pc' := 86) X10 hx (hb hby d21_140) (by decide) rfl ?_
    have g1 := own_gi_step (d := nar .byte v6) (q := v3.toNatClampNeg) ⟨a1, a2, a3, a4, a5, a6⟩ (by omega) (by omega) (by rw [hv6, own_dnar (Nat.mod_lt _ (by decide))]; congr 1; omega)
    have g2 := own_gi_step (d := nar .byte v11) (q := v8.toNatClampNeg) g1 (by omega) (by omega) (by rw [hv11, own_dnar (by omega)]; congr 1; omega)
    exact ih (yy / 10 / 10) (by omega) (some v2) (some v1) T10 h10 _ _ X10 e10 N10 K10 o10 z10 V10 (jj + 1 + 1) v8 ⟨g2.1, g2.2.1, g2.2.2.1, g2.2.2.2.1, g2.2.2.2.2.1, g2.2.2.2.2.2, Or.inr (by omega)⟩ (by omega) v1 (by rw [hd6.1]; omega)
set_option maxRecDepth 65536 in
set_option maxHeartbeats 4000000 in
theorem gc1 {p : Program} {l : Launch} {e : Env} {R : Room} {s : State} {m : MethodId} {args : Array Value} {below : List Frame} {meth : Method} {c : Code} {Z : State} {a0 : Array Value} (hw : ∀ d ∈ tables_1, d.before a0 Z = true) (hx : p.tables.exec = Jvm.exec) (hby : c.code = jdk_35_method_14_code) (hml : c.maxLocals = 11) (hret : meth.sig.returnType = some .int) (hlk : meth.locks = false) (hown : s.vm.findClass "java/lang/Long" = some m.cls) (hZ : Z.Warmed39 s.vm) (n0 : Nat) (h0 : Heap) (d : Addr) (kd : ClassId) (cap : Int32) (vs : List Value) (A kk : Nat) (ix ng : Int32) (da db : Addr) (ko kt : ClassId) (hD : own_D Z da ko db kt) (hkk : own_dgs A kk) (g_d : n0 ≤ d) (hng : ng = 0 ∨ ng = 1) (hix : 0 ≤ ix.toInt ∧ ix.toInt ≤ cap.toInt ∧ cap.toInt ≤ 1000 ∧ (kk : Int) + ng.toInt ≤ ix.toInt) (hlen : vs.length = cap.toNatClampNeg)  :
    ∀ (yy : Nat) (o4 : Option Int64) (o6 : Option Int32) (T0 : State) (hh : Heap) (lc : List Loc) (us : List Value) (X0 : Stand p l e R s m args below meth c T0 lc 0 0) (e0 : T0.heap = hh) (N0 : Fr n0 lc) (K0 : Keep h0 hh [d]) (O0 : own_Old Z n0 hh) (z0 : n0 ≤ hh.size) (V0 : Arv Z hh d kd .byte cap us (.int (0 : Int32))) (jj : Nat) (ps : Int32) (hgi : own_gi A ix.toNatClampNeg vs us ps.toNatClampNeg yy jj) (hps : 0 ≤ ps.toInt ∧ ps.toInt ≤ ix.toInt) (xl : Int64) (hxl : xl.toInt = -(yy : Int)), own_WP p e below (FrameEnd s) (fun v h L => ∃ (z : Int32) (us : List Value), v = some (.int z) ∧ Fr n0 L ∧ Keep h0 h [d] ∧ Arv Z h d kd .byte cap us (.int (0 : Int32)) ∧ own_out A kk ix.toNatClampNeg ng vs us) 0 0 (T0.setTop (mkF m 24 #[.val (.long xl), .second, .val (.int ix), .val (.ref d), (own_s4 o4), (own_s5 o4), (own_s6 o6), .val (.int ps), .val (.int ng), .unset, .unset] [])) := by
  intro yy
  induction yy using Nat.strongRecOn with | _ yy ih => ?_
  intro o4 o6 T0 hh lc us X0 e0 N0 K0 O0 z0 V0 jj ps hgi hps xl hxl
  refine own_lloadN (pc' := 25) X0 hx (hb hby d21_24) rfl rfl ?_
  refine own_ldc2Long (pc' := 28) X0 hx hZ hown (own_w hw 133 rfl) (hb hby d21_25) rfl ?_
  refine own_lcmp (pc' := 29) X0 hx (hb hby d21_28) rfl ?_
  refine own_ifl_gt (pt := 82) (pf := 32) X0 hx (hb hby d21_29) rfl (by decide) rfl (fun hc29 => ?_) (fun hc29 => ?_)
  · skip
    refine own_lloadN (pc' := 83) X0 hx (hb hby d21_82) rfl rfl ?_
    refine own_l2i (pc' := 84) X0 hx (hb hby d21_83) rfl ?_
    obtain ⟨v1, hv1⟩ : ∃ z : Int32, z = (xl.toInt32) := ⟨_, rfl⟩
    refine own_istore (pc' := 86) (l' := #[.val (.long xl), .second, .val (.int ix), .val (.ref d), (own_s4 o4), (own_s5 o4), (own_s6 o6), .val (.int ps), .val (.int ng), .unset, .val (.int v1)]) X0 hx (hb hby d21_84) hv1 rfl rfl ?_
    have hlt : yy < 2147483648 := by rw [Int64.lt_iff_toInt_lt] at hc29; have hc29 : (-2147483648 : Int) < xl.toInt := hc29; omega
    exact gc2 hw hx hby hml hret hlk hown hZ n0 h0 d kd cap vs A kk ix ng da db ko kt hD hkk g_d hng hix hlen xl o4 yy o6 none T0 hh lc us X0 e0 N0 K0 O0 z0 V0 jj ps hgi hps v1 (by have q := c_l2i xl; have r := rng32 xl.toInt32; rw [hv1]; omega)
  · skip
    have hge : 2147483648 ≤ yy := by rw [Int64.lt_iff_toInt_lt] at hc29; have hc29 : ¬ (-2147483648 : Int) < xl.toInt := hc29; omega
    obtain ⟨a1, a2, a3, a4, a5, a6, a7⟩ := hgi
    have hnx := own_nat (x := ix) (by omega)
    have hnp := own_nat (x := ps) (by omega)
    have hnc := own_nat (x := cap) (by omega)
    have hngr : ng.toInt = 0 ∨ ng.toInt = 1 := hng.elim (fun q => Or.inl (by rw [q]; rfl)) (fun q => Or.inr (by rw [q]; rfl))
    have hroom : jj + 3 ≤ kk := by have := own_room (e := 2) hkk a2 (by omega); omega
    refine own_lloadN (pc' := 33) X0 hx (hb hby d21_32) rfl rfl ?_
    refine own_ldc2Long (pc' := 36) X0 hx hZ hown (own_w hw 297 rfl) (hb hby d21_33) rfl ?_
    refine own_ldiv (pc' := 37) X0 hx (hb hby d21_36) (by decide) rfl ?_
    obtain ⟨v2, hv2⟩ : ∃ z : Int64, z = (xl / (100 : Int64)) := ⟨_, rfl⟩
    refine own_lstore (pc' := 39) (l' := #[.val (.long xl), .second, .val (.int ix), .val (.ref d), .val (.long v2), .second, (own_s6 o6), .val (.int ps), .val (.int ng), .unset, .unset]) X0 hx (hb hby d21_37) hv2 (by cases o4 <;> rfl) rfl ?_
    refine own_lload (pc' := 41) X0 hx (hb hby d21_39) rfl rfl ?_
    refine own_ldc2Long (pc' := 44) X0 hx hZ hown (own_w hw 297 rfl) (hb hby d21_41) rfl ?_
    refine own_lmul (pc' := 45) X0 hx (hb hby d21_44) rfl ?_
    refine own_lloadN (pc' := 46) X0 hx (hb hby d21_45) rfl rfl ?_
    refine own_lsub (pc' := 47) X0 hx (hb hby d21_46) rfl ?_
    refine own_l2i (pc' := 48) X0 hx (hb hby d21_47) rfl ?_
    obtain ⟨v3, hv3⟩ : ∃ z : Int32, z = (((v2 * (100 : Int64)) - xl).toInt32) := ⟨_, rfl⟩
    refine own_istore (pc' := 50) (l' := #[.val (.long xl), .second, .val (.int ix), .val (.ref d), .val (.long v2), .second, .val (.int v3), .val (.int ps), .val (.int ng), .unset, .unset]) X0 hx (hb hby d21_48) hv3 (by cases o6 <;> rfl) rfl ?_
    have hd6 := own_d100J (y := yy) hxl hv2 hv3
    refine own_lload (pc' := 52) X0 hx (hb hby d21_50) rfl rfl ?_
    refine own_lstoreN (pc' := 53) (l' := #[.val (.long v2), .second, .val (.int ix), .val (.ref d), .val (.long v2), .second, .val (.int v3), .val (.int ps), .val (.int ng), .unset, .unset]) X0 hx (hb hby d21_52) rfl rfl rfl ?_
    refine own_aloadN (pc' := 54) X0 hx (hb hby d21_53) rfl rfl rfl ?_
    obtain ⟨v4, hv4⟩ : ∃ z : Int32, z = (ps + (-1 : Int32)) := ⟨_, rfl⟩
    refine own_iinc (pc' := 57) (l' := #[.val (.long v2), .second, .val (.int ix), .val (.ref d), .val (.long v2), .second, .val (.int v3), .val (.int v4), .val (.int ng), .unset, .unset]) X0 hx (hb hby d21_54) rfl hv4 rfl rfl ?_
    refine own_iload (pc' := 59) X0 hx (hb hby d21_57) rfl rfl ?_
    refine own_getS (pc' := 62) X0 hx hZ hown (host := "") (Or.inl (own_w hw 134 rfl)) Via.refl e0 (hD.1.ext O0.x) (hb hby d21_59) rfl ?_
    intro T5 X5 e5
    refine own_iload (pc' := 64) X5 hx (hb hby d21_62) rfl rfl ?_
    refine own_baload (pc' := 65) (v := (.int (Int32.ofNat (48 + (yy % 100) % 10)))) X5 hx hZ e5 (hD.2.1.ext O0.x) (own_ones_at hd6.2 (Nat.mod_lt _ (by decide))).1 (own_ones_at hd6.2 (Nat.mod_lt _ (by decide))).2 (hb hby d21_64) rfl ?_
    obtain ⟨v7, hv7⟩ : ∃ z : Int32, z = (Int32.ofNat (48 + (yy % 100) % 10)) := ⟨_, rfl⟩
    rw [← hv7]
    have hq8 : v4.toInt = ps.toInt - 1 := by have q := own_add hv4 (by omega) (by decide); have e : (-1 : Int32).toInt = -1 := rfl; omega
    have hn8 := own_nat (x := v4) (by omega)
    refine own_bastore (pc' := 66) X5 hx hZ e5 V0 ⟨own_nn (by omega), by rw [Int32.lt_iff_toInt_lt]; omega⟩ v4.toNatClampNeg rfl (by first | omega | (simp only [List.length_set]; omega)) (hb hby d21_65) rfl ?_
    intro T6 h6 X6 e6 W6 V6
    have o6 : own_Old Z n0 h6 := O0.wr W6 g_d
    have z6 : n0 ≤ h6.size := Nat.le_trans z0 (Keep.of_wr W6).1
    have N6 := Fr.snoc X6 N0 g_d
    have K6 : Keep h0 h6 [d] := K0.wr W6 (Or.inl (List.mem_of_getElem? (i := 0) rfl))
    refine own_aloadN (pc' := 67) X6 hx (hb hby d21_66) rfl rfl rfl ?_
    obtain ⟨v9, hv9⟩ : ∃ z : Int32, z = (v4 + (-1 : Int32)) := ⟨_, rfl⟩
    refine own_iinc (pc' := 70) (l' := #[.val (.long v2), .second, .val (.int ix), .val (.ref d), .val (.long v2), .second, .val (.int v3), .val (.int v9), .val (.int ng), .unset, .unset]) X6 hx (hb hby d21_67) rfl hv9 rfl rfl ?_
    refine own_iload (pc' := 72) X6 hx (hb hby d21_70) rfl rfl ?_
    refine own_getS (pc' := 75) X6 hx hZ hown (host := "") (Or.inl (own_w hw 298 rfl)) Via.refl e6 (hD.2.2.1.ext o6.x) (hb hby d21_72) rfl ?_
    intro T10 X10 e10
    refine own_iload (pc' := 77) X10 hx (hb hby d21_75) rfl rfl ?_
    refine own_baload (pc' := 78) (v := (.int (Int32.ofNat (48 + (yy % 100) / 10)))) X10 hx hZ e10 (hD.2.2.2.ext o6.x) (own_tens_at hd6.2 (Nat.mod_lt _ (by decide))).1 (own_tens_at hd6.2 (Nat.mod_lt _ (by decide))).2 (hb hby d21_77) rfl ?_
    obtain ⟨v12, hv12⟩ : ∃ z : Int32, z = (Int32.ofNat (48 + (yy % 100) / 10)) := ⟨_, rfl⟩
    rw [← hv12]
    have hq13 : v9.toInt = v4.toInt - 1 := by have q := own_add hv9 (by omega) (by decide); have e : (-1 : Int32).toInt = -1 := rfl; omega
    have hn13 := own_nat (x := v9) (by omega)
    refine own_bastore (pc' := 79) X10 hx hZ e10 V6 ⟨own_nn (by omega), by rw [Int32.lt_iff_toInt_lt]; omega⟩ v9.toNatClampNeg rfl (by first | omega | (simp only [List.length_set]; omega)) (hb hby d21_78) rfl ?_
    intro T11 h11 X11 e11 W11 V11
    have o11 : own_Old Z n0 h11 := o6.wr W11 g_d
    have z11 : n0 ≤ h11.size := Nat.le_trans z6 (Keep.of_wr W11).1
    have N11 := Fr.snoc X11 N6 g_d
    have K11 : Keep h0 h11 [d] := K6.wr W11 (Or.inl (List.mem_of_getElem? (i := 0) rfl))
    refine own_goto (pc' := 24) X11 hx (hb hby d21_79) (by decide) rfl ?_
    have g1 := own_gi_step (d := nar .byte v7) (q := v4.toNatClampNeg) ⟨a1, a2, a3, a4, a5, a6⟩ (by omega) (by omega) (by rw [hv7, own_dnar (Nat.mod_lt _ (by decide))]; congr 1; omega)
    have g2 := own_gi_step (d := nar .byte v12) (q := v9.toNatClampNeg) g1 (by omega) (by omega) (by rw [hv12, own_dnar (by omega)]; congr 1; omega)
    exact ih (yy / 10 / 10) (by omega) (some v2) (some v3) T11 h11 _ _ X11 e11 N11 K11 o11 z11 V11 (jj + 1 + 1) v9 ⟨g2.1, g2.2.1, g2.2.2.1, g2.2.2.2.1, g2.2.2.2.2.1, g2.2.2.2.2.2, Or.inr (by omega)⟩ (by omega) v2 (by rw [hd6.1]; omega)
theorem ef_con_gc (m : MethodId) (xl : Int64) (ix : Int32) (d : Addr) : entryFrame m #[(.long xl), (.int ix), (.ref d)] 11 = mkF m 0 #[.val (.long xl), .second, .val (.int ix), .val (.ref d), .unset, .unset, .unset, .unset, .unset, .unset, .unset] [] := by first | (simp [entryFrame, mkF, argsToLocals, Value.category]; done) | rfl
set_option maxRecDepth 65536 in
set_option maxHeartbeats 4000000 in
theorem con_gc (l : Launch) (Z : State) (a0 : Array Value) (hw : ∀ d ∈ tables_1, d.before a0 Z = true) (xl : Int64) (ix : Int32) (d : Addr) (h0 : Heap) (n0 : Nat) (Z0 : n0 ≤ h0.size) (kd : ClassId) (cap : Int32) (vs : List Value) (A kk : Nat) (ng : Int32) (da db : Addr) (ko kt : ClassId) (hD : own_D Z da ko db kt) (X00 : own_Old Z n0 h0) (hA : Arv Z h0 d kd .byte cap vs (.int (0 : Int32))) (hkk : own_dgs A kk) (g_d : n0 ≤ d) (hA0 : A = xl.toInt.natAbs) (hngx : (xl.toInt < 0 ∧ ng = 1) ∨ (¬ xl.toInt < 0 ∧ ng = 0)) (hix : 0 ≤ ix.toInt ∧ ix.toInt ≤ cap.toInt ∧ cap.toInt ≤ 1000 ∧ (kk : Int) + ng.toInt ≤ ix.toInt) (hlen : vs.length = cap.toNatClampNeg) :
    own_Con l Z (⟨"java/lang/Long", "getChars", "(JI[B)I"⟩ : MethodName) jdk_35_method_14_code 11 (some .int) ({ frames := 0, cells := 0, slots := 0, locals := 0 } : Room) #[(.long xl), (.int ix), (.ref d)] h0 (fun v h L => ∃ (z : Int32) (us : List Value), v = some (.int z) ∧ Fr n0 L ∧ Keep h0 h [d] ∧ Arv Z h d kd .byte cap us (.int (0 : Int32)) ∧ own_out A kk ix.toNatClampNeg ng vs us) := by
  refine own_Con_of pn_21 ?_
  intro p e s m below meth c s₁ X0 hx hby hml hret hlk hnm hown hZ e0
  have hown : s.vm.findClass "java/lang/Long" = some m.cls := hown
  have hml : c.maxLocals = 11 := hml
  have N0 := Fr.nil n0
  show own_WP _ _ _ _ _ _ _ (s₁.setTop (entryFrame m #[(.long xl), (.int ix), (.ref d)] 11))
  rw [ef_con_gc m xl ix d]
  refine own_iloadN (pc' := 1) X0 hx (hb hby d21_0) rfl rfl ?_
  refine own_istore (pc' := 3) (l' := #[.val (.long xl), .second, .val (.int ix), .val (.ref d), .unset, .unset, .unset, .val (.int ix), .unset, .unset, .unset]) X0 hx (hb hby d21_1) rfl rfl rfl ?_
  refine own_lloadN (pc' := 4) X0 hx (hb hby d21_3) rfl rfl ?_
  refine own_lconst0 (pc' := 5) X0 hx (hb hby d21_4) rfl ?_
  refine own_lcmp (pc' := 6) X0 hx (hb hby d21_5) rfl ?_
  refine own_ifl_ge (pt := 13) (pf := 9) X0 hx (hb hby d21_6) rfl (by decide) rfl (fun hc6 => ?_) (fun hc6 => ?_)
  · skip
    refine own_iconst (pc' := 14) X0 hx (0 : Int32) (hb hby d21_13) rfl rfl ?_
    refine own_istore (pc' := 16) (l' := #[.val (.long xl), .second, .val (.int ix), .val (.ref d), .unset, .unset, .unset, .val (.int ix), .val (.int (0 : Int32)), .unset, .unset]) X0 hx (hb hby d21_14) rfl rfl rfl ?_
    refine own_iload (pc' := 18) X0 hx (hb hby d21_16) rfl rfl ?_
    refine own_if_ne (pt := 24) (pf := 21) X0 hx (hb hby d21_18) rfl (by decide) rfl (fun hc18 => absurd (by decide) hc18) (fun hc18 => ?_)
    refine own_lloadN (pc' := 22) X0 hx (hb hby d21_21) rfl rfl ?_
    refine own_lneg (pc' := 23) X0 hx (hb hby d21_22) rfl ?_
    obtain ⟨v1, hv1⟩ : ∃ z : Int64, z = (-xl) := ⟨_, rfl⟩
    refine own_lstoreN (pc' := 24) (l' := #[.val (.long v1), .second, .val (.int ix), .val (.ref d), .unset, .unset, .unset, .val (.int ix), .val (.int (0 : Int32)), .unset, .unset]) X0 hx (hb hby d21_23) hv1 rfl rfl ?_
    have hc6 : ¬ xl.toInt < 0 := by rw [Int64.lt_iff_toInt_lt] at hc6; exact hc6
    obtain rfl : ng = (0 : Int32) := hngx.elim (fun q => absurd q.1 hc6) (fun q => q.2)
    have hnx := own_nat (x := ix) (by omega)
    have hnc := own_nat (x := cap) (by omega)
    exact gc1 hw hx hby hml hret hlk hown hZ n0 h0 d kd cap vs A kk ix (0 : Int32) da db ko kt hD hkk g_d (Or.inl rfl) hix hlen A none none s₁ h0 [] vs X0 e0 N0 (Keep.refl h0 [d]) X00 Z0 hA 0 ix (own_gi_start (by omega)) (by omega) v1 (by rw [own_negJ hv1 (by omega)]; omega)
  · skip
    refine own_iconst (pc' := 10) X0 hx (1 : Int32) (hb hby d21_9) rfl rfl ?_
    refine own_goto (pc' := 14) X0 hx (hb hby d21_10) (by decide) rfl ?_
    refine own_istore (pc' := 16) (l' := #[.val (.long xl), .second, .val (.int ix), .val (.ref d), .unset, .unset, .unset, .val (.int ix), .val (.int (1 : Int32)), .unset, .unset]) X0 hx (hb hby d21_14) rfl rfl rfl ?_
    refine own_iload (pc' := 18) X0 hx (hb hby d21_16) rfl rfl ?_
    refine own_if_ne (pt := 24) (pf := 21) X0 hx (hb hby d21_18) rfl (by decide) rfl (fun hc18 => ?_) (fun hc18 => absurd hc18 (by decide))
    have hc6 : xl.toInt < 0 := by rw [Int64.lt_iff_toInt_lt] at hc6; exact hc6
    obtain rfl : ng = (1 : Int32) := hngx.elim (fun q => q.2) (fun q => absurd hc6 q.1)
    have hnx := own_nat (x := ix) (by omega)
    have hnc := own_nat (x := cap) (by omega)
    exact gc1 hw hx hby hml hret hlk hown hZ n0 h0 d kd cap vs A kk ix (1 : Int32) da db ko kt hD hkk g_d (Or.inr rfl) hix hlen A none none s₁ h0 [] vs X0 e0 N0 (Keep.refl h0 [d]) X00 Z0 hA 0 ix (own_gi_start (by omega)) (by omega) xl (by omega)
theorem d20_0 : decode jdk_68_method_68_code 0 = .ok (.getstatic 18, 3) := by decide +kernel
theorem d20_3 : decode jdk_68_method_68_code 3 = .ok (.ifCond .eq 14, 3) := by decide +kernel
theorem d20_6 : decode jdk_68_method_68_code 6 = .ok (.aload_n 0, 1) := by decide +kernel
theorem d20_7 : decode jdk_68_method_68_code 7 = .ok (.getfield 22, 3) := by decide +kernel
theorem d20_10 : decode jdk_68_method_68_code 10 = .ok (.ifCond .ne 7, 3) := by decide +kernel
theorem d20_13 : decode jdk_68_method_68_code 13 = .ok (.iconst 1, 1) := by decide +kernel
theorem d20_14 : decode jdk_68_method_68_code 14 = .ok (.goto 4, 3) := by decide +kernel
theorem d20_18 : decode jdk_68_method_68_code 18 = .ok (.ireturn, 1) := by decide +kernel
theorem pn_20 : plainFor (⟨"java/lang/AbstractStringBuilder", "isLatin1", "()Z"⟩ : MethodName) = true := plainFor_of_name (by first | (simp [plainName, overriddenIn]; done) | decide +kernel)
theorem ef_con_al1 (m : MethodId) (sb : Addr) : entryFrame m #[(.ref sb)] 1 = mkF m 0 #[.val (.ref sb)] [] := by first | (simp [entryFrame, mkF, argsToLocals, Value.category]; done) | rfl
set_option maxRecDepth 65536 in
set_option maxHeartbeats 4000000 in
theorem con_al1 (l : Launch) (Z : State) (a0 : Array Value) (hw : ∀ d ∈ tables_1, d.before a0 Z = true) (sb : Addr) (h0 : Heap) (n0 : Nat) (Z0 : n0 ≤ h0.size) (G1 : Int32) (fm : Value) (hG : own_G Z G1 fm) (X00 : own_Old Z n0 h0) (bC : Fld Z h0 sb "java/lang/AbstractStringBuilder" "coder" "B" (.int (0 : Int32))) :
    own_Con l Z (⟨"java/lang/AbstractStringBuilder", "isLatin1", "()Z"⟩ : MethodName) jdk_68_method_68_code 1 (some .boolean) ({ frames := 0, cells := 0, slots := 0, locals := 0 } : Room) #[(.ref sb)] h0 (fun v h L => ∃ z : Int32, v = some (.int z) ∧ (z = 1) ∧ L = [] ∧ h = h0) := by
  refine own_Con_of pn_20 ?_
  intro p e s m below meth c s₁ X0 hx hby hml hret hlk hnm hown hZ e0
  have hown : s.vm.findClass "java/lang/AbstractStringBuilder" = some m.cls := hown
  have hml : c.maxLocals = 1 := hml
  show own_WP _ _ _ _ _ _ _ (s₁.setTop (entryFrame m #[(.ref sb)] 1))
  rw [ef_con_al1 m sb]
  refine own_getS (pc' := 3) X0 hx hZ hown (host := "") (Or.inl (own_w hw 57 rfl)) Via.refl e0 (hG.1.ext X00.x) (hb hby d20_0) rfl ?_
  intro T1 X1 e1
  refine own_if_eq (pt := 17) (pf := 6) X1 hx (hb hby d20_3) rfl (by decide) rfl (fun hc3 => absurd hc3 (hG.2.1)) (fun hc3 => ?_)
  refine own_aloadN (pc' := 7) X1 hx (hb hby d20_6) rfl rfl rfl ?_
  refine own_getF (pc' := 10) X1 hx hZ hown (host := "") (Or.inl (own_w hw 60 rfl)) Via.refl e1 bC (hb hby d20_7) rfl ?_
  intro T2 X2 e2
  refine own_if_ne (pt := 17) (pf := 13) X2 hx (hb hby d20_10) rfl (by decide) rfl (fun hc10 => absurd (by decide) hc10) (fun hc10 => ?_)
  refine own_iconst (pc' := 14) X2 hx (1 : Int32) (hb hby d20_13) rfl rfl ?_
  refine own_goto (pc' := 18) X2 hx (hb hby d20_14) (by decide) rfl ?_
  refine own_retN X2 hx (fun _ _ _ _ q => q) hlk (t := .boolean) (by decide) hret (hb hby d20_18) (by decide) (by decide) ?_
  exact ⟨(1 : Int32), rfl, rfl, rfl, e2⟩
theorem d18_0 : decode jdk_68_method_33_code 0 = .ok (.aload_n 0, 1) := by decide +kernel
theorem d18_1 : decode jdk_68_method_33_code 1 = .ok (.getfield 79, 3) := by decide +kernel
theorem d18_4 : decode jdk_68_method_33_code 4 = .ok (.istore_n 3, 1) := by decide +kernel
theorem d18_5 : decode jdk_68_method_33_code 5 = .ok (.iload_n 3, 1) := by decide +kernel
theorem d18_6 : decode jdk_68_method_33_code 6 = .ok (.lload_n 1, 1) := by decide +kernel
theorem d18_7 : decode jdk_68_method_33_code 7 = .ok (.invokestatic 254, 3) := by decide +kernel
theorem d18_10 : decode jdk_68_method_33_code 10 = .ok (.iadd, 1) := by decide +kernel
theorem d18_11 : decode jdk_68_method_33_code 11 = .ok (.istore 4, 2) := by decide +kernel
theorem d18_13 : decode jdk_68_method_33_code 13 = .ok (.aload_n 0, 1) := by decide +kernel
theorem d18_14 : decode jdk_68_method_33_code 14 = .ok (.iload 4, 2) := by decide +kernel
theorem d18_16 : decode jdk_68_method_33_code 16 = .ok (.invokevirtual 100, 3) := by decide +kernel
theorem d18_19 : decode jdk_68_method_33_code 19 = .ok (.aload_n 0, 1) := by decide +kernel
theorem d18_20 : decode jdk_68_method_33_code 20 = .ok (.invokevirtual 83, 3) := by decide +kernel
theorem d18_23 : decode jdk_68_method_33_code 23 = .ok (.ifCond .eq 17, 3) := by decide +kernel
theorem d18_26 : decode jdk_68_method_33_code 26 = .ok (.lload_n 1, 1) := by decide +kernel
theorem d18_27 : decode jdk_68_method_33_code 27 = .ok (.iload 4, 2) := by decide +kernel
theorem d18_29 : decode jdk_68_method_33_code 29 = .ok (.aload_n 0, 1) := by decide +kernel
theorem d18_30 : decode jdk_68_method_33_code 30 = .ok (.getfield 15, 3) := by decide +kernel
theorem d18_33 : decode jdk_68_method_33_code 33 = .ok (.invokestatic 259, 3) := by decide +kernel
theorem d18_36 : decode jdk_68_method_33_code 36 = .ok (.pop, 1) := by decide +kernel
theorem d18_37 : decode jdk_68_method_33_code 37 = .ok (.goto 15, 3) := by decide +kernel
theorem d18_52 : decode jdk_68_method_33_code 52 = .ok (.aload_n 0, 1) := by decide +kernel
theorem d18_53 : decode jdk_68_method_33_code 53 = .ok (.iload 4, 2) := by decide +kernel
theorem d18_55 : decode jdk_68_method_33_code 55 = .ok (.putfield 79, 3) := by decide +kernel
theorem d18_58 : decode jdk_68_method_33_code 58 = .ok (.aload_n 0, 1) := by decide +kernel
theorem d18_59 : decode jdk_68_method_33_code 59 = .ok (.areturn, 1) := by decide +kernel
theorem pn_18 : plainFor (⟨"java/lang/AbstractStringBuilder", "append", "(J)Ljava/lang/AbstractStringBuilder;"⟩ : MethodName) = true := plainFor_of_name (by first | (simp [plainName, overriddenIn]; done) | decide +kernel)
theorem ef_con_aj (m : MethodId) (sb : Addr) (xl : Int64) : entryFrame m #[(.ref sb), (.long xl)] 5 = mkF m 0 #[.val (.ref sb), .val (.long xl), .second, .unset, .unset] [] := by first | (simp [entryFrame, mkF, argsToLocals, Value.category]; done) | rfl
theorem pd22 : parseMethodDescriptor "(J)I" = some ⟨[.long], some .int⟩ := by decide +kernel
theorem pd23 : parseMethodDescriptor "(JI[B)I" = some ⟨[.long, .int, (.array .byte)], some .int⟩ := by decide +kernel
set_option maxRecDepth 65536 in
set_option maxHeartbeats 4000000 in
theorem con_aj (l : Launch) (Z : State) (a0 : Array Value) (hw : ∀ d ∈ tables_1, d.before a0 Z = true) (sb : Addr) (xl : Int64) (h0 : Heap) (n0 : Nat) (Z0 : n0 ≤ h0.size) (G1 : Int32) (fm : Value) (hG : own_G Z G1 fm) (X00 : own_Old Z n0 h0) (d : Addr) (kd : ClassId) (cap cnt : Int32) (vs : List Value) (bE : Exa Z h0 sb "java/lang/StringBuilder") (bV : Fld Z h0 sb "java/lang/AbstractStringBuilder" "value" "[B" (.ref d)) (bC : Fld Z h0 sb "java/lang/AbstractStringBuilder" "coder" "B" (.int (0 : Int32))) (bN : Fld Z h0 sb "java/lang/AbstractStringBuilder" "count" "I" (.int cnt)) (bA : Arv Z h0 d kd .byte cap vs (.int (0 : Int32))) (hB : own_BA Z kd) (ne_sb_d : sb ≠ d) (ne_d_sb : d ≠ sb) (g_sb : n0 ≤ sb) (g_d : n0 ≤ d) (hcap : 0 ≤ cnt.toInt ∧ cnt.toInt ≤ cap.toInt ∧ cap.toInt ≤ 80) (hlen : vs.length = cap.toNatClampNeg) (da db : Addr) (ko kt : ClassId) (hD : own_D Z da ko db kt) :
    own_Con l Z (⟨"java/lang/AbstractStringBuilder", "append", "(J)Ljava/lang/AbstractStringBuilder;"⟩ : MethodName) jdk_68_method_33_code 5 (some (.object "java/lang/AbstractStringBuilder")) ({ frames := 4, cells := 1, slots := 170, locals := 81 } : Room) #[(.ref sb), (.long xl)] h0 (fun v h L => ∃ (d' : Addr) (kd' : ClassId) (cap' cnt' : Int32) (us : List Value) (kk : Nat) (ng : Int32), v = some (.ref sb) ∧ Fr n0 L ∧ Keep h0 h [sb, d] ∧ (d' = d ∨ h0.size ≤ d') ∧ n0 ≤ d' ∧ sb ≠ d' ∧ Exa Z h sb "java/lang/StringBuilder" ∧ Fld Z h sb "java/lang/AbstractStringBuilder" "value" "[B" (.ref d') ∧ Fld Z h sb "java/lang/AbstractStringBuilder" "coder" "B" (.int (0 : Int32)) ∧ Fld Z h sb "java/lang/AbstractStringBuilder" "count" "I" (.int cnt') ∧ Arv Z h d' kd' .byte cap' us (.int (0 : Int32)) ∧ own_BA Z kd' ∧ us.length = cap'.toNatClampNeg ∧ cap'.toInt = own_cap cap.toInt cnt'.toInt ∧ own_dgs xl.toInt.natAbs kk ∧ ((xl.toInt < 0 ∧ ng = 1) ∨ (¬ xl.toInt < 0 ∧ ng = 0)) ∧ cnt'.toInt = cnt.toInt + kk + ng.toInt ∧ us.take cnt'.toNatClampNeg = vs.take cnt.toNatClampNeg ++ own_num xl.toInt.natAbs kk ng) := by
  refine own_Con_of pn_18 ?_
  intro p e s m below meth c s₁ X0 hx hby hml hret hlk hnm hown hZ e0
  have hown : s.vm.findClass "java/lang/AbstractStringBuilder" = some m.cls := hown
  have hml : c.maxLocals = 5 := hml
  have N0 := Fr.nil n0
  show own_WP _ _ _ _ _ _ _ (s₁.setTop (entryFrame m #[(.ref sb), (.long xl)] 5))
  rw [ef_con_aj m sb xl]
  refine own_aloadN (pc' := 1) X0 hx (hb hby d18_0) rfl rfl rfl ?_
  refine own_getF (pc' := 4) X0 hx hZ hown (host := "") (Or.inl (own_w hw 84 rfl)) Via.refl e0 bN (hb hby d18_1) rfl ?_
  intro T1 X1 e1
  refine own_istoreN (pc' := 5) (l' := #[.val (.ref sb), .val (.long xl), .second, .val (.int cnt), .unset]) X1 hx (hb hby d18_4) rfl rfl rfl ?_
  refine own_iloadN (pc' := 6) X1 hx (hb hby d18_5) rfl rfl ?_
  refine own_lloadN (pc' := 7) X1 hx (hb hby d18_6) rfl rfl ?_
  refine own_callS (pc' := 10) (W := 1) (y := (⟨"java/lang/Long", "stringSize", "(J)I"⟩ : MethodName)) X1 hx hZ hown (own_w hw 120 rfl) (own_w hw 121 rfl) (own_w hw 122 rfl) (own_w hw 123 rfl) (by decide) (con_sz l Z a0 hw xl _) e1 pd22 [(.long xl)] [(.int cnt)] rfl rfl rfl (Nat.le_of_eq rfl) (by decide) (by decide) (by rw [hml]; rfl) (hb hby d18_7) (by decide) (by decide) rfl ?_
  intro v2 T2 L2 X2 q2
  obtain ⟨r2, rfl, ⟨kk, hkk, hsz⟩, rfl, e2⟩ := q2
  have M2 := Fr.nil n0
  have N2 := Fr.app N0 M2
  obtain ⟨ng, hngx⟩ : ∃ ng : Int32, (xl.toInt < 0 ∧ ng = 1) ∨ (¬ xl.toInt < 0 ∧ ng = 0) := by
    by_cases hx0 : xl.toInt < 0
    · exact ⟨1, Or.inl ⟨hx0, rfl⟩⟩
    · exact ⟨0, Or.inr ⟨hx0, rfl⟩⟩
  have hng : ng = 0 ∨ ng = 1 := hngx.elim (fun q => Or.inr q.2) (fun q => Or.inl q.2)
  have hngt : ng.toInt = 0 ∨ ng.toInt = 1 := hng.elim (fun q => Or.inl (by rw [q]; rfl)) (fun q => Or.inr (by rw [q]; rfl))
  have hsz2 : r2.toInt = (kk : Int) + ng.toInt := by rcases hngx with ⟨q1, q2⟩ | ⟨q1, q2⟩ <;> simp [q1] at hsz <;> rw [hsz, q2] <;> rfl
  have hk19 := own_dgs_le hkk (by have := rng64 xl; omega)
  show own_WP _ _ _ _ _ _ _ (T2.setTop (mkF m 10 #[.val (.ref sb), .val (.long xl), .second, .val (.int cnt), .unset] [(.int r2), (.int cnt)]))
  refine own_iadd (pc' := 11) X2 hx (hb hby d18_10) rfl ?_
  obtain ⟨v3, hv3⟩ : ∃ z : Int32, z = (cnt + r2) := ⟨_, rfl⟩
  refine own_istore (pc' := 13) (l' := #[.val (.ref sb), .val (.long xl), .second, .val (.int cnt), .val (.int v3)]) X2 hx (hb hby d18_11) hv3 rfl rfl ?_
  have hmi : v3.toInt = cnt.toInt + kk + ng.toInt := by rw [own_add hv3 (by omega) (by omega)]; omega
  refine own_aloadN (pc' := 14) X2 hx (hb hby d18_13) rfl rfl rfl ?_
  refine own_iload (pc' := 16) X2 hx (hb hby d18_14) rfl rfl ?_
  refine own_callP (pc' := 19) (W := 0) (y := (⟨"java/lang/AbstractStringBuilder", "ensureCapacityInternal", "(I)V"⟩ : MethodName)) X2 hx hZ hown (own_w hw 86 rfl) (own_w hw 87 rfl) (own_w hw 88 rfl) (own_w hw 89 rfl) (own_w hw 54 rfl) (own_w hw 90 rfl) (by decide) bE (con_en l Z a0 hw sb v3 _ n0 Z0 d kd cap cnt vs bE bV bC bN bA hB ne_sb_d ne_d_sb g_sb g_d (by omega) hlen (by omega)) e2 pd19 [(.int v3)] [] rfl rfl rfl (Nat.le_of_eq rfl) (by decide) (by decide) (by rw [hml]; rfl) (hb hby d18_16) (by decide) (by decide) rfl ?_
  intro v4 T4 L4 X4 q4
  obtain ⟨c4, k4, cp4, u4, rfl, M4, K4, hor4, g_c4, nsb4, E4q, F4a, F4b, F4c, V4, Bk4, lu4, hcp4, tu4⟩ := q4
  have ne_sb_c4 : sb ≠ c4 := own_ne2 ne_sb_d bE.lt hor4
  have ne_c4_sb := ne_sb_c4.symm
  obtain ⟨h4, e4⟩ : ∃ z, z = T4.heap := ⟨_, rfl⟩
  rw [← e4] at K4 E4q F4a F4b F4c V4
  have e4 := e4.symm
  have o4 : own_Old Z n0 h4 := X00.keep K4 (allS g_sb all0)
  have z4 : n0 ≤ h4.size := Nat.le_trans Z0 K4.1
  have KK4 : Keep h0 h4 [sb, d] := (Keep.refl h0 [sb, d]).trans K4 (allS (P := fun x => x ∈ [sb, d] ∨ h0.size ≤ x) (Or.inl (List.mem_of_getElem? (i := 0) rfl)) all0)
  have N4 := Fr.app N2 M4
  show own_WP _ _ _ _ _ _ _ (T4.setTop (mkF m 19 #[.val (.ref sb), .val (.long xl), .second, .val (.int cnt), .val (.int v3)] []))
  refine own_aloadN (pc' := 20) X4 hx (hb hby d18_19) rfl rfl rfl ?_
  refine own_callV (pc' := 23) (W := 0) (y := (⟨"java/lang/AbstractStringBuilder", "isLatin1", "()Z"⟩ : MethodName)) (z := (⟨"java/lang/AbstractStringBuilder", "isLatin1", "()Z"⟩ : MethodName)) X4 hx hZ hown (own_w hw 125 rfl) (own_w hw 126 rfl) (notFace_of_selects (args := #[]) (mvT hZ (own_w hw 128 rfl))) (own_w hw 128 rfl) (own_w hw 127 rfl) (own_w hw 54 rfl) (own_w hw 129 rfl) (by decide) E4q (con_al1 l Z a0 hw sb _ n0 z4 G1 fm hG o4 F4b) e4 pd3 [] [] rfl rfl rfl (Nat.le_of_eq rfl) (by decide) (by decide) (by rw [hml]; rfl) (hb hby d18_20) (by decide) (by decide) rfl ?_
  intro v5 T5 L5 X5 q5
  obtain ⟨r5, rfl, hr5, rfl, e5⟩ := q5
  have M5 := Fr.nil n0
  have N5 := Fr.app N4 M5
  subst hr5
  show own_WP _ _ _ _ _ _ _ (T5.setTop (mkF m 23 #[.val (.ref sb), .val (.long xl), .second, .val (.int cnt), .val (.int v3)] [(.int (1 : Int32))]))
  refine own_if_eq (pt := 40) (pf := 26) X5 hx (hb hby d18_23) rfl (by decide) rfl (fun hc23 => absurd hc23 (by decide)) (fun hc23 => ?_)
  refine own_lloadN (pc' := 27) X5 hx (hb hby d18_26) rfl rfl ?_
  refine own_iload (pc' := 29) X5 hx (hb hby d18_27) rfl rfl ?_
  refine own_aloadN (pc' := 30) X5 hx (hb hby d18_29) rfl rfl rfl ?_
  refine own_getF (pc' := 33) X5 hx hZ hown (host := "") (Or.inl (own_w hw 58 rfl)) Via.refl e5 F4a (hb hby d18_30) rfl ?_
  intro T6 X6 e6
  have hcg := own_cap_le (cap := cap.toInt) (mi := v3.toInt) (by omega) (by omega) (by omega)
  have hcq := own_cap_ge (cap := cap.toInt) (mi := v3.toInt)
  refine own_callS (pc' := 36) (W := 0) (y := (⟨"java/lang/Long", "getChars", "(JI[B)I"⟩ : MethodName)) X6 hx hZ hown (own_w hw 130 rfl) (own_w hw 131 rfl) (own_w hw 122 rfl) (own_w hw 132 rfl) (by decide) (con_gc l Z a0 hw xl v3 c4 _ n0 z4 k4 cp4 u4 _ kk ng da db ko kt hD o4 V4 hkk g_c4 rfl hngx (by omega) lu4) e6 pd23 [(.long xl), (.int v3), (.ref c4)] [] rfl rfl rfl (Nat.le_of_eq rfl) (by decide) (by decide) (by rw [hml]; rfl) (hb hby d18_33) (by decide) (by decide) rfl ?_
  intro v7 T7 L7 X7 q7
  obtain ⟨r7, u7, rfl, M7, K7, V7, hout⟩ := q7
  obtain ⟨h7, e7⟩ : ∃ z, z = T7.heap := ⟨_, rfl⟩
  rw [← e7] at K7 V7
  have e7 := e7.symm
  have KK7 : Keep h0 h7 [sb, d] := KK4.trans K7 (allS (P := fun x => x ∈ [sb, d] ∨ h0.size ≤ x) (hor4.elim (fun e => Or.inl (e ▸ List.mem_of_getElem? (i := 1) rfl)) (fun q => Or.inr (Nat.le_trans (Keep.refl h0 []).1 q))) all0)
  have N7 := Fr.app N5 M7
  show own_WP _ _ _ _ _ _ _ (T7.setTop (mkF m 36 #[.val (.ref sb), .val (.long xl), .second, .val (.int cnt), .val (.int v3)] [(.int r7)]))
  refine own_pop (pc' := 37) X7 hx (hb hby d18_36) rfl rfl ?_
  refine own_goto (pc' := 52) X7 hx (hb hby d18_37) (by decide) rfl ?_
  refine own_aloadN (pc' := 53) X7 hx (hb hby d18_52) rfl rfl rfl ?_
  refine own_iload (pc' := 55) X7 hx (hb hby d18_53) rfl rfl ?_
  have f8 := (F4c.keep K7 (ninS ne_sb_c4 nin0))
  have f9 := (E4q.keep K7)
  refine own_putF (pc' := 58) X7 hx hZ hown (host := "") (Or.inl (own_w hw 84 rfl)) Via.refl e7 f8 f9 (Or.inl (own_w hw 85 rfl)) (own_w hw 45 rfl) (ty := .int) (by decide) rfl rfl (hb hby d18_55) rfl ?_
  intro T10 h10 X10 e10 W10
  have Fw10 := f8.same W10
  have N10 := Fr.snoc X10 N7 g_sb
  have K10 : Keep h0 h10 [sb, d] := KK7.wr W10 (Or.inl (List.mem_of_getElem? (i := 0) rfl))
  refine own_aloadN (pc' := 59) X10 hx (hb hby d18_58) rfl rfl rfl ?_
  have f11 := (f9.wr W10)
  have f12 := ((F4a.keep K7 (ninS ne_sb_c4 nin0)).other W10 (Or.inr (slot_ne (Or.inl (own_w hw 59 rfl)) (Or.inl (own_w hw 85 rfl)) (by decide) (t := (.array .byte)) (t' := .int) (by decide +kernel) (by decide +kernel))))
  have f13 := ((F4b.keep K7 (ninS ne_sb_c4 nin0)).other W10 (Or.inr (slot_ne (Or.inl (own_w hw 61 rfl)) (Or.inl (own_w hw 85 rfl)) (by decide) (t := .byte) (t' := .int) (by decide +kernel) (by decide +kernel))))
  have f14 := (V7.other W10 ne_c4_sb)
  refine own_retA X10 hx (fun _ _ _ _ q => q) hlk rfl hret rfl rfl (hb hby d18_59) (by decide) (by decide) ?_
  rw [e10]
  have q1 := own_nat (x := cnt) (by omega)
  have q2 := own_nat (x := cap) (by omega)
  have q3 := own_nat (x := v3) (by omega)
  have q4 := own_nat (x := ng) (by omega)
  have q5 := own_nat (x := cp4) (by omega)
  have ht : u4.take cnt.toNatClampNeg = vs.take cnt.toNatClampNeg := by rw [← tu4, List.take_take, Nat.min_eq_left (by omega)]
  exact ⟨c4, k4, cp4, v3, u7, kk, ng, rfl, N10, K10, hor4, g_c4, ne_sb_c4, f11, f12, f13, Fw10, f14, Bk4, by rw [hout.1]; exact lu4, hcp4, hkk, hngx, hmi, by rw [← ht]; exact own_out_take hout hng (by omega) (by omega)⟩
theorem d17_0 : decode jdk_67_method_16_code 0 = .ok (.aload_n 0, 1) := by decide +kernel
theorem d17_1 : decode jdk_67_method_16_code 1 = .ok (.lload_n 1, 1) := by decide +kernel
theorem d17_2 : decode jdk_67_method_16_code 2 = .ok (.invokespecial 56, 3) := by decide +kernel
theorem d17_5 : decode jdk_67_method_16_code 5 = .ok (.pop, 1) := by decide +kernel
theorem d17_6 : decode jdk_67_method_16_code 6 = .ok (.aload_n 0, 1) := by decide +kernel
theorem d17_7 : decode jdk_67_method_16_code 7 = .ok (.areturn, 1) := by decide +kernel
theorem pn_17 : plainFor (⟨"java/lang/StringBuilder", "append", "(J)Ljava/lang/StringBuilder;"⟩ : MethodName) = true := plainFor_of_name (by first | (simp [plainName, overriddenIn]; done) | decide +kernel)
theorem ef_con_sj (m : MethodId) (sb : Addr) (xl : Int64) : entryFrame m #[(.ref sb), (.long xl)] 3 = mkF m 0 #[.val (.ref sb), .val (.long xl), .second] [] := by first | (simp [entryFrame, mkF, argsToLocals, Value.category]; done) | rfl
theorem pd24 : parseMethodDescriptor "(J)Ljava/lang/AbstractStringBuilder;" = some ⟨[.long], some (.object "java/lang/AbstractStringBuilder")⟩ := by decide +kernel
set_option maxRecDepth 65536 in
set_option maxHeartbeats 4000000 in
theorem con_sj (l : Launch) (Z : State) (a0 : Array Value) (hw : ∀ d ∈ tables_1, d.before a0 Z = true) (sb : Addr) (xl : Int64) (h0 : Heap) (n0 : Nat) (Z0 : n0 ≤ h0.size) (G1 : Int32) (fm : Value) (hG : own_G Z G1 fm) (X00 : own_Old Z n0 h0) (d : Addr) (kd : ClassId) (cap cnt : Int32) (vs : List Value) (bE : Exa Z h0 sb "java/lang/StringBuilder") (bV : Fld Z h0 sb "java/lang/AbstractStringBuilder" "value" "[B" (.ref d)) (bC : Fld Z h0 sb "java/lang/AbstractStringBuilder" "coder" "B" (.int (0 : Int32))) (bN : Fld Z h0 sb "java/lang/AbstractStringBuilder" "count" "I" (.int cnt)) (bA : Arv Z h0 d kd .byte cap vs (.int (0 : Int32))) (hB : own_BA Z kd) (ne_sb_d : sb ≠ d) (ne_d_sb : d ≠ sb) (g_sb : n0 ≤ sb) (g_d : n0 ≤ d) (hcap : 0 ≤ cnt.toInt ∧ cnt.toInt ≤ cap.toInt ∧ cap.toInt ≤ 80) (hlen : vs.length = cap.toNatClampNeg) (da db : Addr) (ko kt : ClassId) (hD : own_D Z da ko db kt) :
    own_Con l Z (⟨"java/lang/StringBuilder", "append", "(J)Ljava/lang/StringBuilder;"⟩ : MethodName) jdk_67_method_16_code 3 (some (.object "java/lang/StringBuilder")) ({ frames := 5, cells := 1, slots := 170, locals := 98 } : Room) #[(.ref sb), (.long xl)] h0 (fun v h L => ∃ (d' : Addr) (kd' : ClassId) (cap' cnt' : Int32) (us : List Value) (kk : Nat) (ng : Int32), v = some (.ref sb) ∧ Fr n0 L ∧ Keep h0 h [sb, d] ∧ (d' = d ∨ h0.size ≤ d') ∧ n0 ≤ d' ∧ sb ≠ d' ∧ Exa Z h sb "java/lang/StringBuilder" ∧ Fld Z h sb "java/lang/AbstractStringBuilder" "value" "[B" (.ref d') ∧ Fld Z h sb "java/lang/AbstractStringBuilder" "coder" "B" (.int (0 : Int32)) ∧ Fld Z h sb "java/lang/AbstractStringBuilder" "count" "I" (.int cnt') ∧ Arv Z h d' kd' .byte cap' us (.int (0 : Int32)) ∧ own_BA Z kd' ∧ us.length = cap'.toNatClampNeg ∧ cap'.toInt = own_cap cap.toInt cnt'.toInt ∧ own_dgs xl.toInt.natAbs kk ∧ ((xl.toInt < 0 ∧ ng = 1) ∨ (¬ xl.toInt < 0 ∧ ng = 0)) ∧ cnt'.toInt = cnt.toInt + kk + ng.toInt ∧ us.take cnt'.toNatClampNeg = vs.take cnt.toNatClampNeg ++ own_num xl.toInt.natAbs kk ng) := by
  refine own_Con_of pn_17 ?_
  intro p e s m below meth c s₁ X0 hx hby hml hret hlk hnm hown hZ e0
  have hown : s.vm.findClass "java/lang/StringBuilder" = some m.cls := hown
  have hml : c.maxLocals = 3 := hml
  have N0 := Fr.nil n0
  show own_WP _ _ _ _ _ _ _ (s₁.setTop (entryFrame m #[(.ref sb), (.long xl)] 3))
  rw [ef_con_sj m sb xl]
  refine own_aloadN (pc' := 1) X0 hx (hb hby d17_0) rfl rfl rfl ?_
  refine own_lloadN (pc' := 2) X0 hx (hb hby d17_1) rfl rfl ?_
  refine own_callSup (pc' := 5) (W := 0) (y := (⟨"java/lang/AbstractStringBuilder", "append", "(J)Ljava/lang/AbstractStringBuilder;"⟩ : MethodName)) X0 hx hZ hown (own_w hw 116 rfl) (own_w hw 117 rfl) (own_same (y := (⟨"java/lang/AbstractStringBuilder", "append", "(J)Ljava/lang/AbstractStringBuilder;"⟩ : MethodName)) (by decide) (own_w hw 117 rfl) (own_nif (y := (⟨"java/lang/AbstractStringBuilder", "ensureCapacityInternal", "(I)V"⟩ : MethodName)) (own_w hw 89 rfl))) (own_w hw 70 rfl) (by decide) (own_w hw 54 rfl) (own_w hw 119 rfl) bE (con_aj l Z a0 hw sb xl _ n0 Z0 G1 fm hG X00 d kd cap cnt vs bE bV bC bN bA hB ne_sb_d ne_d_sb g_sb g_d hcap hlen da db ko kt hD) e0 pd24 [(.long xl)] [] rfl rfl rfl (Nat.le_of_eq rfl) (by decide) (by decide) (by rw [hml]; rfl) (hb hby d17_2) (by decide) (by decide) rfl ?_
  intro v1 T1 L1 X1 q1
  obtain ⟨c1, k1, cp1, ct1, u1, kk, ng, rfl, M1, K1, hor1, g_c1, nsb1, E1q, F1a, F1b, F1c, V1, Bk1, lu1, hcp1, hkk, hngx, hct1, tu1⟩ := q1
  have ne_sb_c1 : sb ≠ c1 := own_ne2 ne_sb_d bE.lt hor1
  obtain ⟨h1, e1⟩ : ∃ z, z = T1.heap := ⟨_, rfl⟩
  rw [← e1] at K1 E1q F1a F1b F1c V1
  have e1 := e1.symm
  have KK1 : Keep h0 h1 [sb, d] := (Keep.refl h0 [sb, d]).trans K1 (allS (P := fun x => x ∈ [sb, d] ∨ h0.size ≤ x) (Or.inl (List.mem_of_getElem? (i := 0) rfl)) (allS (P := fun x => x ∈ [sb, d] ∨ h0.size ≤ x) (Or.inl (List.mem_of_getElem? (i := 1) rfl)) all0))
  have N1 := Fr.app N0 M1
  show own_WP _ _ _ _ _ _ _ (T1.setTop (mkF m 5 #[.val (.ref sb), .val (.long xl), .second] [(.ref sb)]))
  refine own_pop (pc' := 6) X1 hx (hb hby d17_5) rfl rfl ?_
  refine own_aloadN (pc' := 7) X1 hx (hb hby d17_6) rfl rfl rfl ?_
  refine own_retA X1 hx (fun _ _ _ _ q => q) hlk rfl hret rfl rfl (hb hby d17_7) (by decide) (by decide) ?_
  rw [e1]
  exact ⟨c1, k1, cp1, ct1, u1, kk, ng, rfl, N1, KK1, hor1, g_c1, ne_sb_c1, E1q, F1a, F1b, F1c, V1, Bk1, lu1, hcp1, hkk, hngx, hct1, tu1⟩
theorem own_sub0 (x : Int32) : x - 0 = x := by simp
theorem d25_0 : decode jdk_68_method_64_code 0 = .ok (.aload_n 0, 1) := by decide +kernel
theorem d25_1 : decode jdk_68_method_64_code 1 = .ok (.getfield 15, 3) := by decide +kernel
theorem d25_4 : decode jdk_68_method_64_code 4 = .ok (.areturn, 1) := by decide +kernel
theorem pn_25 : plainFor (⟨"java/lang/AbstractStringBuilder", "getValue", "()[B"⟩ : MethodName) = true := plainFor_of_name (by first | (simp [plainName, overriddenIn]; done) | decide +kernel)
theorem ef_con_gv (m : MethodId) (sb : Addr) : entryFrame m #[(.ref sb)] 1 = mkF m 0 #[.val (.ref sb)] [] := by first | (simp [entryFrame, mkF, argsToLocals, Value.category]; done) | rfl
set_option maxRecDepth 65536 in
set_option maxHeartbeats 4000000 in
theorem con_gv (l : Launch) (Z : State) (a0 : Array Value) (hw : ∀ d ∈ tables_1, d.before a0 Z = true) (sb : Addr) (h0 : Heap) (n0 : Nat) (Z0 : n0 ≤ h0.size) (d : Addr) (bV : Fld Z h0 sb "java/lang/AbstractStringBuilder" "value" "[B" (.ref d)) :
    own_Con l Z (⟨"java/lang/AbstractStringBuilder", "getValue", "()[B"⟩ : MethodName) jdk_68_method_64_code 1 (some (.array .byte)) ({ frames := 0, cells := 0, slots := 0, locals := 0 } : Room) #[(.ref sb)] h0 (fun v h L => v = some (.ref d) ∧ L = [] ∧ h = h0) := by
  refine own_Con_of pn_25 ?_
  intro p e s m below meth c s₁ X0 hx hby hml hret hlk hnm hown hZ e0
  have hown : s.vm.findClass "java/lang/AbstractStringBuilder" = some m.cls := hown
  have hml : c.maxLocals = 1 := hml
  show own_WP _ _ _ _ _ _ _ (s₁.setTop (entryFrame m #[(.ref sb)] 1))
  rw [ef_con_gv m sb]
  refine own_aloadN (pc' := 1) X0 hx (hb hby d25_0) rfl rfl rfl ?_
  refine own_getF (pc' := 4) X0 hx hZ hown (host := "") (Or.inl (own_w hw 58 rfl)) Via.refl e0 bV (hb hby d25_1) rfl ?_
  intro T1 X1 e1
  refine own_retA X1 hx (fun _ _ _ _ q => q) hlk rfl hret rfl rfl (hb hby d25_4) (by decide) (by decide) ?_
  exact ⟨rfl, rfl, e1⟩
theorem d27_0 : decode jdk_68_method_6_code 0 = .ok (.aload_n 0, 1) := by decide +kernel
theorem d27_1 : decode jdk_68_method_6_code 1 = .ok (.getfield 79, 3) := by decide +kernel
theorem d27_4 : decode jdk_68_method_6_code 4 = .ok (.ireturn, 1) := by decide +kernel
theorem pn_27 : plainFor (⟨"java/lang/AbstractStringBuilder", "length", "()I"⟩ : MethodName) = true := plainFor_of_name (by first | (simp [plainName, overriddenIn]; done) | decide +kernel)
theorem ef_con_al (m : MethodId) (sb : Addr) : entryFrame m #[(.ref sb)] 1 = mkF m 0 #[.val (.ref sb)] [] := by first | (simp [entryFrame, mkF, argsToLocals, Value.category]; done) | rfl
set_option maxRecDepth 65536 in
set_option maxHeartbeats 4000000 in
theorem con_al (l : Launch) (Z : State) (a0 : Array Value) (hw : ∀ d ∈ tables_1, d.before a0 Z = true) (sb : Addr) (h0 : Heap) (n0 : Nat) (Z0 : n0 ≤ h0.size) (cnt : Int32) (bE : Exa Z h0 sb "java/lang/StringBuilder") (bN : Fld Z h0 sb "java/lang/AbstractStringBuilder" "count" "I" (.int cnt)) :
    own_Con l Z (⟨"java/lang/AbstractStringBuilder", "length", "()I"⟩ : MethodName) jdk_68_method_6_code 1 (some .int) ({ frames := 0, cells := 0, slots := 0, locals := 0 } : Room) #[(.ref sb)] h0 (fun v h L => v = some (.int cnt) ∧ L = [] ∧ h = h0) := by
  refine own_Con_of pn_27 ?_
  intro p e s m below meth c s₁ X0 hx hby hml hret hlk hnm hown hZ e0
  have hown : s.vm.findClass "java/lang/AbstractStringBuilder" = some m.cls := hown
  have hml : c.maxLocals = 1 := hml
  show own_WP _ _ _ _ _ _ _ (s₁.setTop (entryFrame m #[(.ref sb)] 1))
  rw [ef_con_al m sb]
  refine own_aloadN (pc' := 1) X0 hx (hb hby d27_0) rfl rfl rfl ?_
  refine own_getF (pc' := 4) X0 hx hZ hown (host := "") (Or.inl (own_w hw 84 rfl)) Via.refl e0 bN (hb hby d27_1) rfl ?_
  intro T1 X1 e1
  refine own_retI X1 hx (fun _ _ _ _ q => q) hlk hret (hb hby d27_4) (by decide) (by decide) ?_
  exact ⟨rfl, rfl, e1⟩
theorem d26_0 : decode jdk_67_method_93_code 0 = .ok (.aload_n 0, 1) := by decide +kernel
theorem d26_1 : decode jdk_67_method_93_code 1 = .ok (.invokespecial 343, 3) := by decide +kernel
theorem d26_4 : decode jdk_67_method_93_code 4 = .ok (.ireturn, 1) := by decide +kernel
theorem pn_26 : plainFor (⟨"java/lang/StringBuilder", "length", "()I"⟩ : MethodName) = true := plainFor_of_name (by first | (simp [plainName, overriddenIn]; done) | decide +kernel)
theorem ef_con_sl (m : MethodId) (sb : Addr) : entryFrame m #[(.ref sb)] 1 = mkF m 0 #[.val (.ref sb)] [] := by first | (simp [entryFrame, mkF, argsToLocals, Value.category]; done) | rfl
set_option maxRecDepth 65536 in
set_option maxHeartbeats 4000000 in
theorem con_sl (l : Launch) (Z : State) (a0 : Array Value) (hw : ∀ d ∈ tables_1, d.before a0 Z = true) (sb : Addr) (h0 : Heap) (n0 : Nat) (Z0 : n0 ≤ h0.size) (cnt : Int32) (bE : Exa Z h0 sb "java/lang/StringBuilder") (bN : Fld Z h0 sb "java/lang/AbstractStringBuilder" "count" "I" (.int cnt)) :
    own_Con l Z (⟨"java/lang/StringBuilder", "length", "()I"⟩ : MethodName) jdk_67_method_93_code 1 (some .int) ({ frames := 1, cells := 0, slots := 0, locals := 12 } : Room) #[(.ref sb)] h0 (fun v h L => v = some (.int cnt) ∧ L = [] ∧ h = h0) := by
  refine own_Con_of pn_26 ?_
  intro p e s m below meth c s₁ X0 hx hby hml hret hlk hnm hown hZ e0
  have hown : s.vm.findClass "java/lang/StringBuilder" = some m.cls := hown
  have hml : c.maxLocals = 1 := hml
  show own_WP _ _ _ _ _ _ _ (s₁.setTop (entryFrame m #[(.ref sb)] 1))
  rw [ef_con_sl m sb]
  refine own_aloadN (pc' := 1) X0 hx (hb hby d26_0) rfl rfl rfl ?_
  refine own_callSup (pc' := 4) (W := 0) (y := (⟨"java/lang/AbstractStringBuilder", "length", "()I"⟩ : MethodName)) X0 hx hZ hown (own_w hw 160 rfl) (own_w hw 156 rfl) (own_same (y := (⟨"java/lang/AbstractStringBuilder", "length", "()I"⟩ : MethodName)) (by decide) (own_w hw 156 rfl) (own_nif (y := (⟨"java/lang/AbstractStringBuilder", "ensureCapacityInternal", "(I)V"⟩ : MethodName)) (own_w hw 89 rfl))) (own_w hw 70 rfl) (by decide) (own_w hw 54 rfl) (own_w hw 161 rfl) bE (con_al l Z a0 hw sb _ n0 Z0 _ bE bN) e0 pd18 [] [] rfl rfl rfl (Nat.le_of_eq rfl) (by decide) (by decide) (by rw [hml]; rfl) (hb hby d26_1) (by decide) (by decide) rfl ?_
  intro v1 T1 L1 X1 q1
  obtain ⟨rfl, rfl, e1⟩ := q1
  show own_WP _ _ _ _ _ _ _ (T1.setTop (mkF m 4 #[.val (.ref sb)] [(.int cnt)]))
  refine own_retI X1 hx (fun _ _ _ _ q => q) hlk hret (hb hby d26_4) (by decide) (by decide) ?_
  exact ⟨rfl, rfl, e1⟩
theorem d47_0 : decode jdk_65_method_131_code 0 = .ok (.iload_n 1, 1) := by decide +kernel
theorem d47_1 : decode jdk_65_method_131_code 1 = .ok (.iload_n 0, 1) := by decide +kernel
theorem d47_2 : decode jdk_65_method_131_code 2 = .ok (.if_icmp .ge 35, 3) := by decide +kernel
theorem d47_37 : decode jdk_65_method_131_code 37 = .ok (.return_, 1) := by decide +kernel
theorem pn_47 : plainFor (⟨"java/util/Arrays", "checkLength", "(II)V"⟩ : MethodName) = true := plainFor_of_name (by first | (simp [plainName, overriddenIn]; done) | decide +kernel)
theorem ef_con_ck (m : MethodId) (c2 : Int32) : entryFrame m #[(.int (0 : Int32)), (.int c2)] 2 = mkF m 0 #[.val (.int (0 : Int32)), .val (.int c2)] [] := by first | (simp [entryFrame, mkF, argsToLocals, Value.category]; done) | rfl
set_option maxRecDepth 65536 in
set_option maxHeartbeats 4000000 in
theorem con_ck (l : Launch) (Z : State) (a0 : Array Value) (hw : ∀ d ∈ tables_1, d.before a0 Z = true) (c2 : Int32) (h0 : Heap) (n0 : Nat) (Z0 : n0 ≤ h0.size) (hc : ¬ c2 < 0) :
    own_Con l Z (⟨"java/util/Arrays", "checkLength", "(II)V"⟩ : MethodName) jdk_65_method_131_code 2 none ({ frames := 0, cells := 0, slots := 0, locals := 0 } : Room) #[(.int (0 : Int32)), (.int c2)] h0 (fun v h L => v = none ∧ L = [] ∧ h = h0) := by
  refine own_Con_of pn_47 ?_
  intro p e s m below meth c s₁ X0 hx hby hml hret hlk hnm hown hZ e0
  have hown : s.vm.findClass "java/util/Arrays" = some m.cls := hown
  have hml : c.maxLocals = 2 := hml
  show own_WP _ _ _ _ _ _ _ (s₁.setTop (entryFrame m #[(.int (0 : Int32)), (.int c2)] 2))
  rw [ef_con_ck m c2]
  refine own_iloadN (pc' := 1) X0 hx (hb hby d47_0) rfl rfl ?_
  refine own_iloadN (pc' := 2) X0 hx (hb hby d47_1) rfl rfl ?_
  refine own_icmp_ge (pt := 37) (pf := 5) X0 hx (hb hby d47_2) rfl (by decide) rfl (fun hc2 => ?_) (fun hc2 => absurd hc2 (hc))
  refine own_ret0 X0 hx (fun _ _ _ _ q => q) hlk hret (hb hby d47_37) (by decide) (by decide) ?_
  exact ⟨rfl, rfl, e0⟩
theorem d46_0 : decode jdk_65_method_133_code 0 = .ok (.iload_n 1, 1) := by decide +kernel
theorem d46_1 : decode jdk_65_method_133_code 1 = .ok (.iload_n 2, 1) := by decide +kernel
theorem d46_2 : decode jdk_65_method_133_code 2 = .ok (.invokestatic 343, 3) := by decide +kernel
theorem d46_5 : decode jdk_65_method_133_code 5 = .ok (.iload_n 2, 1) := by decide +kernel
theorem d46_6 : decode jdk_65_method_133_code 6 = .ok (.iload_n 1, 1) := by decide +kernel
theorem d46_7 : decode jdk_65_method_133_code 7 = .ok (.isub, 1) := by decide +kernel
theorem d46_8 : decode jdk_65_method_133_code 8 = .ok (.istore_n 3, 1) := by decide +kernel
theorem d46_9 : decode jdk_65_method_133_code 9 = .ok (.iload_n 3, 1) := by decide +kernel
theorem d46_10 : decode jdk_65_method_133_code 10 = .ok (.newarray .byte, 2) := by decide +kernel
theorem d46_12 : decode jdk_65_method_133_code 12 = .ok (.astore 4, 2) := by decide +kernel
theorem d46_14 : decode jdk_65_method_133_code 14 = .ok (.aload_n 0, 1) := by decide +kernel
theorem d46_15 : decode jdk_65_method_133_code 15 = .ok (.iload_n 1, 1) := by decide +kernel
theorem d46_16 : decode jdk_65_method_133_code 16 = .ok (.aload 4, 2) := by decide +kernel
theorem d46_18 : decode jdk_65_method_133_code 18 = .ok (.iconst 0, 1) := by decide +kernel
theorem d46_19 : decode jdk_65_method_133_code 19 = .ok (.aload_n 0, 1) := by decide +kernel
theorem d46_20 : decode jdk_65_method_133_code 20 = .ok (.arraylength, 1) := by decide +kernel
theorem d46_21 : decode jdk_65_method_133_code 21 = .ok (.iload_n 1, 1) := by decide +kernel
theorem d46_22 : decode jdk_65_method_133_code 22 = .ok (.isub, 1) := by decide +kernel
theorem d46_23 : decode jdk_65_method_133_code 23 = .ok (.iload_n 3, 1) := by decide +kernel
theorem d46_24 : decode jdk_65_method_133_code 24 = .ok (.invokestatic 304, 3) := by decide +kernel
theorem d46_27 : decode jdk_65_method_133_code 27 = .ok (.invokestatic 150, 3) := by decide +kernel
theorem d46_30 : decode jdk_65_method_133_code 30 = .ok (.aload 4, 2) := by decide +kernel
theorem d46_32 : decode jdk_65_method_133_code 32 = .ok (.areturn, 1) := by decide +kernel
theorem pn_46 : plainFor (⟨"java/util/Arrays", "copyOfRangeByte", "([BII)[B"⟩ : MethodName) = true := plainFor_of_name (by first | (simp [plainName, overriddenIn]; done) | decide +kernel)
theorem ef_con_cb (m : MethodId) (b0 : Addr) (c2 : Int32) : entryFrame m #[(.ref b0), (.int (0 : Int32)), (.int c2)] 5 = mkF m 0 #[.val (.ref b0), .val (.int (0 : Int32)), .val (.int c2), .unset, .unset] [] := by first | (simp [entryFrame, mkF, argsToLocals, Value.category]; done) | rfl
set_option maxRecDepth 65536 in
set_option maxHeartbeats 4000000 in
theorem con_cb (l : Launch) (Z : State) (a0 : Array Value) (hw : ∀ d ∈ tables_1, d.before a0 Z = true) (b0 : Addr) (c2 : Int32) (h0 : Heap) (n0 : Nat) (Z0 : n0 ≤ h0.size) (kb : ClassId) (zc : Int32) (vs : List Value) (hA : Arv Z h0 b0 kb .byte zc vs (.int (0 : Int32))) (hB : own_BA Z kb) (hzc : 0 ≤ c2.toInt ∧ c2.toInt ≤ zc.toInt ∧ zc.toInt ≤ 170) (hlen : vs.length = zc.toNatClampNeg) :
    own_Con l Z (⟨"java/util/Arrays", "copyOfRangeByte", "([BII)[B"⟩ : MethodName) jdk_65_method_133_code 5 (some (.array .byte)) ({ frames := 1, cells := 1, slots := 170, locals := 32 } : Room) #[(.ref b0), (.int (0 : Int32)), (.int c2)] h0 (fun v h L => ∃ (b : Addr) (kb : ClassId) (us : List Value), v = some (.ref b) ∧ Fr n0 L ∧ Keep h0 h [] ∧ h0.size ≤ b ∧ Arv Z h b kb .byte c2 us (.int (0 : Int32)) ∧ us = vs.take c2.toNatClampNeg) := by
  refine own_Con_of pn_46 ?_
  intro p e s m below meth c s₁ X0 hx hby hml hret hlk hnm hown hZ e0
  have hown : s.vm.findClass "java/util/Arrays" = some m.cls := hown
  have hml : c.maxLocals = 5 := hml
  have N0 := Fr.nil n0
  show own_WP _ _ _ _ _ _ _ (s₁.setTop (entryFrame m #[(.ref b0), (.int (0 : Int32)), (.int c2)] 5))
  rw [ef_con_cb m b0 c2]
  refine own_iloadN (pc' := 1) X0 hx (hb hby d46_0) rfl rfl ?_
  refine own_iloadN (pc' := 2) X0 hx (hb hby d46_1) rfl rfl ?_
  refine own_callS (pc' := 5) (W := 0) (y := (⟨"java/util/Arrays", "checkLength", "(II)V"⟩ : MethodName)) X0 hx hZ hown (own_w hw 283 rfl) (own_w hw 284 rfl) (own_w hw 165 rfl) (own_w hw 285 rfl) (by decide) (con_ck l Z a0 hw c2 _ n0 Z0 (own_nn (by omega))) e0 pd2 [(.int (0 : Int32)), (.int c2)] [] rfl rfl rfl (Nat.le_of_eq rfl) (by decide) (by decide) (by rw [hml]; rfl) (hb hby d46_2) (by decide) (by decide) rfl ?_
  intro v1 T1 L1 X1 q1
  obtain ⟨rfl, rfl, e1⟩ := q1
  have M1 := Fr.nil n0
  have N1 := Fr.app N0 M1
  show own_WP _ _ _ _ _ _ _ (T1.setTop (mkF m 5 #[.val (.ref b0), .val (.int (0 : Int32)), .val (.int c2), .unset, .unset] []))
  refine own_iloadN (pc' := 6) X1 hx (hb hby d46_5) rfl rfl ?_
  refine own_iloadN (pc' := 7) X1 hx (hb hby d46_6) rfl rfl ?_
  refine own_isub (pc' := 8) X1 hx (hb hby d46_7) rfl ?_
  rw [own_sub0]
  refine own_istoreN (pc' := 9) (l' := #[.val (.ref b0), .val (.int (0 : Int32)), .val (.int c2), .val (.int c2), .unset]) X1 hx (hb hby d46_8) rfl rfl rfl ?_
  refine own_iloadN (pc' := 10) X1 hx (hb hby d46_9) rfl rfl ?_
  refine own_newP (pc' := 12) (cap := 170) X1 hx hZ (own_w hw 16 rfl) e1 (hb hby d46_10) (own_nn (by omega)) (by have q := own_nat (x := c2) (by omega); omega) (by decide) (by decide) (by decide) rfl ?_
  intro T2 h2 k2 b2 g2 X2 e2 E2 A2
  have g_b2 : n0 ≤ b2 := Nat.le_trans Z0 (Nat.le_of_eq g2.symm)
  have sz_b2 : h0.size ≤ b2 := Nat.le_trans (Keep.refl h0 []).1 (Nat.le_of_eq g2.symm)
  have K2 : Keep h0 h2 [] := (Keep.refl h0 []).ext E2
  have V2 : Arv Z h2 b2 k2 .byte c2 (List.replicate c2.toNatClampNeg (.int (0 : Int32))) (.int (0 : Int32)) := (Arv.new A2 (own_nn (by omega))).pad (pad_rep [] (.int (0 : Int32)) c2.toNatClampNeg)
  refine own_astore (pc' := 14) (l' := #[.val (.ref b0), .val (.int (0 : Int32)), .val (.int c2), .val (.int c2), .val (.ref b2)]) X2 hx (hb hby d46_12) rfl rfl rfl ?_
  refine own_aloadN (pc' := 15) X2 hx (hb hby d46_14) rfl rfl rfl ?_
  refine own_iloadN (pc' := 16) X2 hx (hb hby d46_15) rfl rfl ?_
  refine own_aload (pc' := 18) X2 hx (hb hby d46_16) rfl rfl rfl ?_
  refine own_iconst (pc' := 19) X2 hx (0 : Int32) (hb hby d46_18) rfl rfl ?_
  refine own_aloadN (pc' := 20) X2 hx (hb hby d46_19) rfl rfl rfl ?_
  have f3 := (hA.ext E2)
  refine own_arrlen (pc' := 21) X2 hx hZ e2 f3 (hb hby d46_20) rfl ?_
  refine own_iloadN (pc' := 22) X2 hx (hb hby d46_21) rfl rfl ?_
  refine own_isub (pc' := 23) X2 hx (hb hby d46_22) rfl ?_
  rw [own_sub0]
  refine own_iloadN (pc' := 24) X2 hx (hb hby d46_23) rfl rfl ?_
  refine own_callS (pc' := 27) (W := 4) (y := (⟨"java/lang/Math", "min", "(II)I"⟩ : MethodName)) X2 hx hZ hown (own_w hw 276 rfl) (own_w hw 277 rfl) (own_w hw 269 rfl) (own_w hw 278 rfl) (by decide) (con_min l Z a0 hw zc c2 _) e2 pd12 [(.int zc), (.int c2)] [(.int (0 : Int32)), (.ref b2), (.int (0 : Int32)), (.ref b0)] rfl rfl rfl (Nat.le_of_eq rfl) (by decide) (by decide) (by rw [hml]; rfl) (hb hby d46_24) (by decide) (by decide) rfl ?_
  intro v4 T4 L4 X4 q4
  obtain ⟨r4, rfl, hr4, rfl, e4⟩ := q4
  have M4 := Fr.nil n0
  have N4 := Fr.app N1 M4
  show own_WP _ _ _ _ _ _ _ (T4.setTop (mkF m 27 #[.val (.ref b0), .val (.int (0 : Int32)), .val (.int c2), .val (.int c2), .val (.ref b2)] [(.int r4), (.int (0 : Int32)), (.ref b2), (.int (0 : Int32)), (.ref b0)]))
  have hmn := own_mn hr4
  have er4 : c2 = r4 := Int32.toInt_inj.mp (by omega)
  subst er4
  have q1 := own_nat (x := c2) (by omega)
  have q2 := own_nat (x := zc) (by omega)
  refine own_cpA (pc' := 30) (W := 0) (n0 := n0) X4 hx hZ hown (own_w hw 279 rfl) (own_w hw 110 rfl) (own_w hw 108 rfl) (own_w hw 109 rfl) e4 f3 V2 (by decide) (by decide) (own_nn (by omega)) (by show 0 + _ ≤ _; omega) (by show 0 + _ ≤ _; omega) (own_us (by show 0 + _ ≤ _; omega)) (by rw [List.length_replicate]; show 0 + _ ≤ _; omega) N4 g_b2 (by rw [hml]; rfl) (hb hby d46_27) (by decide) (Nat.le_of_eq rfl) (by decide) rfl ?_
  intro T5 h5 L5 X5 e5 N5 K5 V5
  have KK5 : Keep h0 h5 [] := K2.trans K5 (allS (P := fun x => x ∈ [] ∨ h0.size ≤ x) (Or.inr sz_b2) all0)
  refine own_aload (pc' := 32) X5 hx (hb hby d46_30) rfl rfl rfl ?_
  refine own_retA X5 hx (fun _ _ _ _ q => q) hlk rfl hret rfl rfl (hb hby d46_32) (by decide) (by decide) ?_
  rw [e5]
  have q := V5
  refine ⟨b2, k2, _, rfl, N5, KK5, sz_b2, q, ?_⟩
  rw [own_t0, List.take_zero, List.nil_append, List.drop_zero, Nat.zero_add, List.drop_eq_nil_of_le (by rw [List.length_replicate]; exact Nat.le_refl _), List.append_nil]
theorem d28_0 : decode jdk_65_method_132_code 0 = .ok (.iload_n 1, 1) := by decide +kernel
theorem d28_1 : decode jdk_65_method_132_code 1 = .ok (.ifCond .ne 9, 3) := by decide +kernel
theorem d28_4 : decode jdk_65_method_132_code 4 = .ok (.iload_n 2, 1) := by decide +kernel
theorem d28_5 : decode jdk_65_method_132_code 5 = .ok (.aload_n 0, 1) := by decide +kernel
theorem d28_6 : decode jdk_65_method_132_code 6 = .ok (.arraylength, 1) := by decide +kernel
theorem d28_7 : decode jdk_65_method_132_code 7 = .ok (.if_icmp .eq 10, 3) := by decide +kernel
theorem d28_10 : decode jdk_65_method_132_code 10 = .ok (.aload_n 0, 1) := by decide +kernel
theorem d28_11 : decode jdk_65_method_132_code 11 = .ok (.iload_n 1, 1) := by decide +kernel
theorem d28_12 : decode jdk_65_method_132_code 12 = .ok (.iload_n 2, 1) := by decide +kernel
theorem d28_13 : decode jdk_65_method_132_code 13 = .ok (.invokestatic 339, 3) := by decide +kernel
theorem d28_16 : decode jdk_65_method_132_code 16 = .ok (.areturn, 1) := by decide +kernel
theorem d28_17 : decode jdk_65_method_132_code 17 = .ok (.aload_n 0, 1) := by decide +kernel
theorem d28_18 : decode jdk_65_method_132_code 18 = .ok (.invokevirtual 310, 3) := by decide +kernel
theorem d28_21 : decode jdk_65_method_132_code 21 = .ok (.checkcast 311, 3) := by decide +kernel
theorem d28_24 : decode jdk_65_method_132_code 24 = .ok (.areturn, 1) := by decide +kernel
theorem pn_28 : plainFor (⟨"java/util/Arrays", "copyOfRange", "([BII)[B"⟩ : MethodName) = true := plainFor_of_name (by first | (simp [plainName, overriddenIn]; done) | decide +kernel)
theorem ef_con_cr (m : MethodId) (b0 : Addr) (c2 : Int32) : entryFrame m #[(.ref b0), (.int (0 : Int32)), (.int c2)] 3 = mkF m 0 #[.val (.ref b0), .val (.int (0 : Int32)), .val (.int c2)] [] := by first | (simp [entryFrame, mkF, argsToLocals, Value.category]; done) | rfl
theorem pd25 : parseMethodDescriptor "([BII)[B" = some ⟨[(.array .byte), .int, .int], some (.array .byte)⟩ := by decide +kernel
set_option maxRecDepth 65536 in
set_option maxHeartbeats 4000000 in
theorem con_cr (l : Launch) (Z : State) (a0 : Array Value) (hw : ∀ d ∈ tables_1, d.before a0 Z = true) (b0 : Addr) (c2 : Int32) (h0 : Heap) (n0 : Nat) (Z0 : n0 ≤ h0.size) (kb : ClassId) (zc : Int32) (vs : List Value) (hA : Arv Z h0 b0 kb .byte zc vs (.int (0 : Int32))) (hB : own_BA Z kb) (hzc : 0 ≤ c2.toInt ∧ c2.toInt ≤ zc.toInt ∧ zc.toInt ≤ 170) (hlen : vs.length = zc.toNatClampNeg) :
    own_Con l Z (⟨"java/util/Arrays", "copyOfRange", "([BII)[B"⟩ : MethodName) jdk_65_method_132_code 3 (some (.array .byte)) ({ frames := 2, cells := 1, slots := 170, locals := 48 } : Room) #[(.ref b0), (.int (0 : Int32)), (.int c2)] h0 (fun v h L => ∃ (b : Addr) (kb : ClassId) (us : List Value), v = some (.ref b) ∧ Fr n0 L ∧ Keep h0 h [] ∧ h0.size ≤ b ∧ Arv Z h b kb .byte c2 us (.int (0 : Int32)) ∧ us = vs.take c2.toNatClampNeg) := by
  refine own_Con_of pn_28 ?_
  intro p e s m below meth c s₁ X0 hx hby hml hret hlk hnm hown hZ e0
  have hown : s.vm.findClass "java/util/Arrays" = some m.cls := hown
  have hml : c.maxLocals = 3 := hml
  have N0 := Fr.nil n0
  show own_WP _ _ _ _ _ _ _ (s₁.setTop (entryFrame m #[(.ref b0), (.int (0 : Int32)), (.int c2)] 3))
  rw [ef_con_cr m b0 c2]
  refine own_iloadN (pc' := 1) X0 hx (hb hby d28_0) rfl rfl ?_
  refine own_if_ne (pt := 10) (pf := 4) X0 hx (hb hby d28_1) rfl (by decide) rfl (fun hc1 => absurd (by decide) hc1) (fun hc1 => ?_)
  refine own_iloadN (pc' := 5) X0 hx (hb hby d28_4) rfl rfl ?_
  refine own_aloadN (pc' := 6) X0 hx (hb hby d28_5) rfl rfl rfl ?_
  refine own_arrlen (pc' := 7) X0 hx hZ e0 hA (hb hby d28_6) rfl ?_
  refine own_icmp_eq (pt := 17) (pf := 10) X0 hx (hb hby d28_7) rfl (by decide) rfl (fun hc7 => ?_) (fun hc7 => ?_)
  · skip
    refine own_aloadN (pc' := 18) X0 hx (hb hby d28_17) rfl rfl rfl ?_
    refine own_clone (pc' := 21) (W := 0) (cap := 170) X0 hx hZ hown (own_w hw 167 rfl) (own_w hw 168 rfl) (own_w hw 172 rfl) (own_w hw 170 rfl) (own_w hw 171 rfl) (own_w hw 173 rfl) e0 hA hB (by rw [hml]; rfl) (hb hby d28_18) (by decide) (Nat.le_of_eq rfl) (by decide) (by have q := own_nat (x := zc) (by omega); omega) (by decide) (by decide) rfl ?_
    intro T1 h1 b1 g1 X1 e1 E1 V1 A1
    have sz_b1 : h0.size ≤ b1 := Nat.le_trans (Keep.refl h0 []).1 (Nat.le_of_eq g1.symm)
    have K1 : Keep h0 h1 [] := (Keep.refl h0 []).ext E1
    show own_WP _ _ _ _ _ _ _ (T1.setTop (mkF m 21 #[.val (.ref b0), .val (.int (0 : Int32)), .val (.int c2)] [(.ref b1)]))
    refine own_castY (pc' := 24) X1 hx hZ hown (own_w hw 174 rfl) e1 (Ins.self A1) (hb hby d28_21) rfl ?_
    intro T2 X2 e2
    refine own_retA X2 hx (fun _ _ _ _ q => q) hlk rfl hret rfl rfl (hb hby d28_24) (by decide) (by decide) ?_
    rw [e2]
    refine ⟨b1, _, _, rfl, N0, K1, sz_b1, (hc7 ▸ V1), ?_⟩
    rw [hc7]
    exact (List.take_of_length_le (by omega)).symm
  · skip
    refine own_aloadN (pc' := 11) X0 hx (hb hby d28_10) rfl rfl rfl ?_
    refine own_iloadN (pc' := 12) X0 hx (hb hby d28_11) rfl rfl ?_
    refine own_iloadN (pc' := 13) X0 hx (hb hby d28_12) rfl rfl ?_
    refine own_callS (pc' := 16) (W := 0) (y := (⟨"java/util/Arrays", "copyOfRangeByte", "([BII)[B"⟩ : MethodName)) X0 hx hZ hown (own_w hw 280 rfl) (own_w hw 281 rfl) (own_w hw 165 rfl) (own_w hw 282 rfl) (by decide) (con_cb l Z a0 hw b0 c2 _ n0 Z0 kb zc vs hA hB (by omega) hlen) e0 pd25 [(.ref b0), (.int (0 : Int32)), (.int c2)] [] rfl rfl rfl (Nat.le_of_eq rfl) (by decide) (by decide) (by rw [hml]; rfl) (hb hby d28_13) (by decide) (by decide) rfl ?_
    intro v3 T3 L3 X3 q3
    obtain ⟨c3, k3, u3, rfl, M3, K3, s3, V3, hu3⟩ := q3
    have sz_c3 : h0.size ≤ c3 := Nat.le_trans (Keep.refl h0 []).1 s3
    obtain ⟨h3, e3⟩ : ∃ z, z = T3.heap := ⟨_, rfl⟩
    rw [← e3] at K3 V3
    have e3 := e3.symm
    have KK3 : Keep h0 h3 [] := (Keep.refl h0 []).trans K3 all0
    have N3 := Fr.app N0 M3
    show own_WP _ _ _ _ _ _ _ (T3.setTop (mkF m 16 #[.val (.ref b0), .val (.int (0 : Int32)), .val (.int c2)] [(.ref c3)]))
    refine own_retA X3 hx (fun _ _ _ _ q => q) hlk rfl hret rfl rfl (hb hby d28_16) (by decide) (by decide) ?_
    rw [e3]
    exact ⟨c3, _, _, rfl, N3, KK3, sz_c3, V3, hu3⟩
theorem d24_0 : decode jdk_42_method_150_code 0 = .ok (.aload_n 0, 1) := by decide +kernel
theorem d24_1 : decode jdk_42_method_150_code 1 = .ok (.invokespecial 1, 3) := by decide +kernel
theorem d24_4 : decode jdk_42_method_150_code 4 = .ok (.aload_n 1, 1) := by decide +kernel
theorem d24_5 : decode jdk_42_method_150_code 5 = .ok (.invokevirtual 552, 3) := by decide +kernel
theorem d24_8 : decode jdk_42_method_150_code 8 = .ok (.astore_n 3, 1) := by decide +kernel
theorem d24_9 : decode jdk_42_method_150_code 9 = .ok (.aload_n 1, 1) := by decide +kernel
theorem d24_10 : decode jdk_42_method_150_code 10 = .ok (.invokevirtual 549, 3) := by decide +kernel
theorem d24_13 : decode jdk_42_method_150_code 13 = .ok (.istore 4, 2) := by decide +kernel
theorem d24_15 : decode jdk_42_method_150_code 15 = .ok (.aload_n 1, 1) := by decide +kernel
theorem d24_16 : decode jdk_42_method_150_code 16 = .ok (.invokevirtual 1047, 3) := by decide +kernel
theorem d24_19 : decode jdk_42_method_150_code 19 = .ok (.ifCond .eq 22, 3) := by decide +kernel
theorem d24_22 : decode jdk_42_method_150_code 22 = .ok (.aload_n 0, 1) := by decide +kernel
theorem d24_23 : decode jdk_42_method_150_code 23 = .ok (.iconst 0, 1) := by decide +kernel
theorem d24_24 : decode jdk_42_method_150_code 24 = .ok (.putfield 15, 3) := by decide +kernel
theorem d24_27 : decode jdk_42_method_150_code 27 = .ok (.aload_n 0, 1) := by decide +kernel
theorem d24_28 : decode jdk_42_method_150_code 28 = .ok (.aload_n 3, 1) := by decide +kernel
theorem d24_29 : decode jdk_42_method_150_code 29 = .ok (.iconst 0, 1) := by decide +kernel
theorem d24_30 : decode jdk_42_method_150_code 30 = .ok (.iload 4, 2) := by decide +kernel
theorem d24_32 : decode jdk_42_method_150_code 32 = .ok (.invokestatic 54, 3) := by decide +kernel
theorem d24_35 : decode jdk_42_method_150_code 35 = .ok (.putfield 9, 3) := by decide +kernel
theorem d24_38 : decode jdk_42_method_150_code 38 = .ok (.goto 59, 3) := by decide +kernel
theorem d24_97 : decode jdk_42_method_150_code 97 = .ok (.return_, 1) := by decide +kernel
theorem pn_24 : plainFor (⟨"java/lang/String", "<init>", "(Ljava/lang/AbstractStringBuilder;Ljava/lang/Void;)V"⟩ : MethodName) = true := plainFor_of_name (by first | (simp [plainName, overriddenIn]; done) | decide +kernel)
theorem ef_con_ia (m : MethodId) (a : Addr) (sb : Addr) : entryFrame m #[(.ref a), (.ref sb), .null] 5 = mkF m 0 #[.val (.ref a), .val (.ref sb), .val .null, .unset, .unset] [] := by first | (simp [entryFrame, mkF, argsToLocals, Value.category]; done) | rfl
theorem pd26 : parseMethodDescriptor "()[B" = some ⟨[], some (.array .byte)⟩ := by decide +kernel
set_option maxRecDepth 65536 in
set_option maxHeartbeats 4000000 in
theorem con_ia (l : Launch) (Z : State) (a0 : Array Value) (hw : ∀ d ∈ tables_1, d.before a0 Z = true) (a : Addr) (sb : Addr) (h0 : Heap) (n0 : Nat) (Z0 : n0 ≤ h0.size) (G1 : Int32) (fm : Value) (hG : own_G Z G1 fm) (X00 : own_Old Z n0 h0) (d : Addr) (kd : ClassId) (cap cnt : Int32) (vs : List Value) (bE : Exa Z h0 sb "java/lang/StringBuilder") (bV : Fld Z h0 sb "java/lang/AbstractStringBuilder" "value" "[B" (.ref d)) (bC : Fld Z h0 sb "java/lang/AbstractStringBuilder" "coder" "B" (.int (0 : Int32))) (bN : Fld Z h0 sb "java/lang/AbstractStringBuilder" "count" "I" (.int cnt)) (bA : Arv Z h0 d kd .byte cap vs (.int (0 : Int32))) (hB : own_BA Z kd) (v0 c0 : Value) (hE : Exa Z h0 a "java/lang/String") (hC : Fld Z h0 a "java/lang/String" "coder" "B" c0) (hV : Fld Z h0 a "java/lang/String" "value" "[B" v0) (g_a : n0 ≤ a) (ne_a_sb : a ≠ sb) (ne_sb_a : sb ≠ a) (ne_a_d : a ≠ d) (ne_d_a : d ≠ a) (hcap : 0 ≤ cnt.toInt ∧ cnt.toInt ≤ cap.toInt ∧ cap.toInt ≤ 170) (hlen : vs.length = cap.toNatClampNeg) :
    own_Con l Z (⟨"java/lang/String", "<init>", "(Ljava/lang/AbstractStringBuilder;Ljava/lang/Void;)V"⟩ : MethodName) jdk_42_method_150_code 5 none ({ frames := 3, cells := 1, slots := 170, locals := 66 } : Room) #[(.ref a), (.ref sb), .null] h0 (fun v h L => ∃ (b : Addr) (kb : ClassId) (us : List Value), v = none ∧ Fr n0 L ∧ Keep h0 h [a] ∧ h0.size ≤ b ∧ Exa Z h a "java/lang/String" ∧ Fld Z h a "java/lang/String" "coder" "B" (.int (0 : Int32)) ∧ Fld Z h a "java/lang/String" "value" "[B" (.ref b) ∧ Arv Z h b kb .byte cnt us (.int (0 : Int32)) ∧ us = vs.take cnt.toNatClampNeg) := by
  refine own_Con_of pn_24 ?_
  intro p e s m below meth c s₁ X0 hx hby hml hret hlk hnm hown hZ e0
  have hown : s.vm.findClass "java/lang/String" = some m.cls := hown
  have hml : c.maxLocals = 5 := hml
  have N0 := Fr.nil n0
  show own_WP _ _ _ _ _ _ _ (s₁.setTop (entryFrame m #[(.ref a), (.ref sb), .null] 5))
  rw [ef_con_ia m a sb]
  refine own_aloadN (pc' := 1) X0 hx (hb hby d24_0) rfl rfl rfl ?_
  refine own_initO (pc' := 4) (W := 0) X0 hx hZ hown (own_w hw 12 rfl) (own_w hw 13 rfl) (own_w hw 14 rfl) e0 (by rw [hml]; rfl) (hb hby d24_1) (by decide) (Nat.le_of_eq rfl) (by decide) rfl ?_
  intro T1 X1 e1
  refine own_aloadN (pc' := 5) X1 hx (hb hby d24_4) rfl rfl rfl ?_
  refine own_callV (pc' := 8) (W := 0) (y := (⟨"java/lang/AbstractStringBuilder", "getValue", "()[B"⟩ : MethodName)) (z := (⟨"java/lang/AbstractStringBuilder", "getValue", "()[B"⟩ : MethodName)) X1 hx hZ hown (own_w hw 149 rfl) (own_w hw 150 rfl) (notFace_of_selects (args := #[]) (mvT hZ (own_w hw 152 rfl))) (own_w hw 152 rfl) (own_w hw 151 rfl) (own_w hw 54 rfl) (own_w hw 153 rfl) (by decide) bE (con_gv l Z a0 hw sb _ n0 Z0 _ bV) e1 pd26 [] [] rfl rfl rfl (Nat.le_of_eq rfl) (by decide) (by decide) (by rw [hml]; rfl) (hb hby d24_5) (by decide) (by decide) rfl ?_
  intro v2 T2 L2 X2 q2
  obtain ⟨rfl, rfl, e2⟩ := q2
  have M2 := Fr.nil n0
  have N2 := Fr.app N0 M2
  show own_WP _ _ _ _ _ _ _ (T2.setTop (mkF m 8 #[.val (.ref a), .val (.ref sb), .val .null, .unset, .unset] [(.ref d)]))
  refine own_astoreN (pc' := 9) (l' := #[.val (.ref a), .val (.ref sb), .val .null, .val (.ref d), .unset]) X2 hx (hb hby d24_8) rfl rfl rfl ?_
  refine own_aloadN (pc' := 10) X2 hx (hb hby d24_9) rfl rfl rfl ?_
  refine own_callV (pc' := 13) (W := 0) (y := (⟨"java/lang/AbstractStringBuilder", "length", "()I"⟩ : MethodName)) (z := (⟨"java/lang/StringBuilder", "length", "()I"⟩ : MethodName)) X2 hx hZ hown (own_w hw 154 rfl) (own_w hw 155 rfl) (own_notface (a0 := #[]) (y := (⟨"java/lang/AbstractStringBuilder", "length", "()I"⟩ : MethodName)) (y1 := (⟨"java/lang/AbstractStringBuilder", "ensureCapacityInternal", "(I)V"⟩ : MethodName)) (by decide) (mvT hZ (own_w hw 89 rfl))) (own_w hw 157 rfl) (own_w hw 158 rfl) (own_w hw 46 rfl) (own_w hw 159 rfl) (by decide) bE (con_sl l Z a0 hw sb _ n0 Z0 _ bE bN) e2 pd18 [] [] rfl rfl rfl (Nat.le_of_eq rfl) (by decide) (by decide) (by rw [hml]; rfl) (hb hby d24_10) (by decide) (by decide) rfl ?_
  intro v3 T3 L3 X3 q3
  obtain ⟨rfl, rfl, e3⟩ := q3
  have M3 := Fr.nil n0
  have N3 := Fr.app N2 M3
  show own_WP _ _ _ _ _ _ _ (T3.setTop (mkF m 13 #[.val (.ref a), .val (.ref sb), .val .null, .val (.ref d), .unset] [(.int cnt)]))
  refine own_istore (pc' := 15) (l' := #[.val (.ref a), .val (.ref sb), .val .null, .val (.ref d), .val (.int cnt)]) X3 hx (hb hby d24_13) rfl rfl rfl ?_
  refine own_aloadN (pc' := 16) X3 hx (hb hby d24_15) rfl rfl rfl ?_
  refine own_callV (pc' := 19) (W := 0) (y := (⟨"java/lang/AbstractStringBuilder", "isLatin1", "()Z"⟩ : MethodName)) (z := (⟨"java/lang/AbstractStringBuilder", "isLatin1", "()Z"⟩ : MethodName)) X3 hx hZ hown (own_w hw 162 rfl) (own_w hw 126 rfl) (notFace_of_selects (args := #[]) (mvT hZ (own_w hw 128 rfl))) (own_w hw 128 rfl) (own_w hw 127 rfl) (own_w hw 54 rfl) (own_w hw 129 rfl) (by decide) bE (con_al1 l Z a0 hw sb _ n0 Z0 G1 fm hG X00 bC) e3 pd3 [] [] rfl rfl rfl (Nat.le_of_eq rfl) (by decide) (by decide) (by rw [hml]; rfl) (hb hby d24_16) (by decide) (by decide) rfl ?_
  intro v4 T4 L4 X4 q4
  obtain ⟨r4, rfl, hr4, rfl, e4⟩ := q4
  have M4 := Fr.nil n0
  have N4 := Fr.app N3 M4
  subst hr4
  show own_WP _ _ _ _ _ _ _ (T4.setTop (mkF m 19 #[.val (.ref a), .val (.ref sb), .val .null, .val (.ref d), .val (.int cnt)] [(.int (1 : Int32))]))
  refine own_if_eq (pt := 41) (pf := 22) X4 hx (hb hby d24_19) rfl (by decide) rfl (fun hc19 => absurd hc19 (by decide)) (fun hc19 => ?_)
  refine own_aloadN (pc' := 23) X4 hx (hb hby d24_22) rfl rfl rfl ?_
  refine own_iconst (pc' := 24) X4 hx (0 : Int32) (hb hby d24_23) rfl rfl ?_
  refine own_putF (pc' := 27) X4 hx hZ hown (host := "") (Or.inl (own_w hw 22 rfl)) Via.refl e4 hC hE (Or.inr ⟨(own_w hw 18 rfl), rfl, hnm⟩) (own_w hw 2 rfl) (ty := .byte) (by decide) rfl rfl (hb hby d24_24) rfl ?_
  intro T5 h5 X5 e5 W5
  have z5 : n0 ≤ h5.size := Nat.le_trans Z0 (Keep.of_wr W5).1
  have Fw5 := hC.same W5
  have N5 := Fr.snoc X5 N4 g_a
  have K5 : Keep h0 h5 [a] := (Keep.refl h0 [a]).wr W5 (Or.inl (List.mem_of_getElem? (i := 0) rfl))
  refine own_aloadN (pc' := 28) X5 hx (hb hby d24_27) rfl rfl rfl ?_
  refine own_aloadN (pc' := 29) X5 hx (hb hby d24_28) rfl rfl rfl ?_
  refine own_iconst (pc' := 30) X5 hx (0 : Int32) (hb hby d24_29) rfl rfl ?_
  refine own_iload (pc' := 32) X5 hx (hb hby d24_30) rfl rfl ?_
  have f7 := (bA.other W5 ne_d_a)
  refine own_callS (pc' := 35) (W := 1) (y := (⟨"java/util/Arrays", "copyOfRange", "([BII)[B"⟩ : MethodName)) X5 hx hZ hown (own_w hw 163 rfl) (own_w hw 164 rfl) (own_w hw 165 rfl) (own_w hw 166 rfl) (by decide) (con_cr l Z a0 hw d cnt _ n0 z5 kd cap vs f7 hB (by omega) hlen) e5 pd25 [(.ref d), (.int (0 : Int32)), (.int cnt)] [(.ref a)] rfl rfl rfl (Nat.le_of_eq rfl) (by decide) (by decide) (by rw [hml]; rfl) (hb hby d24_32) (by decide) (by decide) rfl ?_
  intro v6 T6 L6 X6 q6
  obtain ⟨c6, k6, u6, rfl, M6, K6, s6, V6, hu6⟩ := q6
  have f8 := (hE.wr W5)
  have ne_a_c6 : a ≠ c6 := Nat.ne_of_lt (Nat.lt_of_lt_of_le f8.lt s6)
  have ne_c6_a := ne_a_c6.symm
  have sz_c6 : h0.size ≤ c6 := Nat.le_trans K5.1 s6
  obtain ⟨h6, e6⟩ : ∃ z, z = T6.heap := ⟨_, rfl⟩
  rw [← e6] at K6 V6
  have e6 := e6.symm
  have KK6 : Keep h0 h6 [a] := K5.trans K6 all0
  have N6 := Fr.app N5 M6
  show own_WP _ _ _ _ _ _ _ (T6.setTop (mkF m 35 #[.val (.ref a), .val (.ref sb), .val .null, .val (.ref d), .val (.int cnt)] [(.ref c6), (.ref a)]))
  have f10 := ((hV.other W5 (Or.inr (slot_ne (Or.inr (own_w hw 17 rfl)) (Or.inr (own_w hw 18 rfl)) (by decide) (t := (.array .byte)) (t' := .byte) (by decide +kernel) (by decide +kernel)))).keep K6 nin0)
  have f11 := (f8.keep K6)
  refine own_putF (pc' := 38) X6 hx hZ hown (host := "") (Or.inl (own_w hw 21 rfl)) Via.refl e6 f10 f11 (Or.inr ⟨(own_w hw 17 rfl), rfl, hnm⟩) (own_w hw 2 rfl) (ty := (.array .byte)) (by decide +kernel) rfl rfl (hb hby d24_35) rfl ?_
  intro T12 h12 X12 e12 W12
  have Fw12 := f10.same W12
  have N12 := Fr.snoc X12 N6 g_a
  have K12 : Keep h0 h12 [a] := KK6.wr W12 (Or.inl (List.mem_of_getElem? (i := 0) rfl))
  refine own_goto (pc' := 97) X12 hx (hb hby d24_38) (by decide) rfl ?_
  have f13 := (f11.wr W12)
  have f14 := ((Fw5.keep K6 nin0).other W12 (Or.inr (slot_ne (Or.inr (own_w hw 18 rfl)) (Or.inr (own_w hw 17 rfl)) (by decide) (t := .byte) (t' := (.array .byte)) (by decide +kernel) (by decide +kernel))))
  have f15 := (V6.other W12 ne_c6_a)
  refine own_ret0 X12 hx (fun _ _ _ _ q => q) hlk hret (hb hby d24_97) (by decide) (by decide) ?_
  rw [e12]
  exact ⟨c6, k6, u6, rfl, N12, K12, sz_c6, f13, f14, Fw12, f15, hu6⟩
theorem d23_0 : decode jdk_42_method_53_code 0 = .ok (.aload_n 0, 1) := by decide +kernel
theorem d23_1 : decode jdk_42_method_53_code 1 = .ok (.aload_n 1, 1) := by decide +kernel
theorem d23_2 : decode jdk_42_method_53_code 2 = .ok (.aconst_null, 1) := by decide +kernel
theorem d23_3 : decode jdk_42_method_53_code 3 = .ok (.invokespecial 489, 3) := by decide +kernel
theorem d23_6 : decode jdk_42_method_53_code 6 = .ok (.return_, 1) := by decide +kernel
theorem pn_23 : plainFor (⟨"java/lang/String", "<init>", "(Ljava/lang/StringBuilder;)V"⟩ : MethodName) = true := plainFor_of_name (by first | (simp [plainName, overriddenIn]; done) | decide +kernel)
theorem ef_con_ib (m : MethodId) (a : Addr) (sb : Addr) : entryFrame m #[(.ref a), (.ref sb)] 2 = mkF m 0 #[.val (.ref a), .val (.ref sb)] [] := by first | (simp [entryFrame, mkF, argsToLocals, Value.category]; done) | rfl
theorem pd27 : parseMethodDescriptor "(Ljava/lang/AbstractStringBuilder;Ljava/lang/Void;)V" = some ⟨[(.object "java/lang/AbstractStringBuilder"), (.object "java/lang/Void")], none⟩ := by decide +kernel
set_option maxRecDepth 65536 in
set_option maxHeartbeats 4000000 in
theorem con_ib (l : Launch) (Z : State) (a0 : Array Value) (hw : ∀ d ∈ tables_1, d.before a0 Z = true) (a : Addr) (sb : Addr) (h0 : Heap) (n0 : Nat) (Z0 : n0 ≤ h0.size) (G1 : Int32) (fm : Value) (hG : own_G Z G1 fm) (X00 : own_Old Z n0 h0) (d : Addr) (kd : ClassId) (cap cnt : Int32) (vs : List Value) (bE : Exa Z h0 sb "java/lang/StringBuilder") (bV : Fld Z h0 sb "java/lang/AbstractStringBuilder" "value" "[B" (.ref d)) (bC : Fld Z h0 sb "java/lang/AbstractStringBuilder" "coder" "B" (.int (0 : Int32))) (bN : Fld Z h0 sb "java/lang/AbstractStringBuilder" "count" "I" (.int cnt)) (bA : Arv Z h0 d kd .byte cap vs (.int (0 : Int32))) (hB : own_BA Z kd) (v0 c0 : Value) (hE : Exa Z h0 a "java/lang/String") (hC : Fld Z h0 a "java/lang/String" "coder" "B" c0) (hV : Fld Z h0 a "java/lang/String" "value" "[B" v0) (g_a : n0 ≤ a) (ne_a_sb : a ≠ sb) (ne_sb_a : sb ≠ a) (ne_a_d : a ≠ d) (ne_d_a : d ≠ a) (hcap : 0 ≤ cnt.toInt ∧ cnt.toInt ≤ cap.toInt ∧ cap.toInt ≤ 170) (hlen : vs.length = cap.toNatClampNeg) :
    own_Con l Z (⟨"java/lang/String", "<init>", "(Ljava/lang/StringBuilder;)V"⟩ : MethodName) jdk_42_method_53_code 2 none ({ frames := 4, cells := 1, slots := 170, locals := 82 } : Room) #[(.ref a), (.ref sb)] h0 (fun v h L => ∃ (b : Addr) (kb : ClassId) (us : List Value), v = none ∧ Fr n0 L ∧ Keep h0 h [a] ∧ h0.size ≤ b ∧ Exa Z h a "java/lang/String" ∧ Fld Z h a "java/lang/String" "coder" "B" (.int (0 : Int32)) ∧ Fld Z h a "java/lang/String" "value" "[B" (.ref b) ∧ Arv Z h b kb .byte cnt us (.int (0 : Int32)) ∧ us = vs.take cnt.toNatClampNeg) := by
  refine own_Con_of pn_23 ?_
  intro p e s m below meth c s₁ X0 hx hby hml hret hlk hnm hown hZ e0
  have hown : s.vm.findClass "java/lang/String" = some m.cls := hown
  have hml : c.maxLocals = 2 := hml
  have N0 := Fr.nil n0
  show own_WP _ _ _ _ _ _ _ (s₁.setTop (entryFrame m #[(.ref a), (.ref sb)] 2))
  rw [ef_con_ib m a sb]
  refine own_aloadN (pc' := 1) X0 hx (hb hby d23_0) rfl rfl rfl ?_
  refine own_aloadN (pc' := 2) X0 hx (hb hby d23_1) rfl rfl rfl ?_
  refine own_anull (pc' := 3) X0 hx (hb hby d23_2) rfl ?_
  refine own_callN (pc' := 6) (W := 0) (y := (⟨"java/lang/String", "<init>", "(Ljava/lang/AbstractStringBuilder;Ljava/lang/Void;)V"⟩ : MethodName)) X0 hx hZ rfl hown (own_w hw 146 rfl) (own_w hw 147 rfl) (own_w hw 3 rfl) (own_w hw 148 rfl) (by decide) (con_ia l Z a0 hw a sb _ n0 Z0 G1 fm hG X00 d kd cap cnt vs bE bV bC bN bA hB _ _ hE hC hV g_a ne_a_sb ne_sb_a ne_a_d ne_d_a hcap hlen) e0 pd27 a [(.ref sb), .null] [] rfl rfl rfl (Nat.le_of_eq rfl) (by decide) (by decide) (by rw [hml]; rfl) (hb hby d23_3) (by decide) (by decide) rfl ?_
  intro v1 T1 L1 X1 q1
  obtain ⟨c1, k1, u1, rfl, M1, K1, s1, E1q, F1a, F1b, V1, hu1⟩ := q1
  have sz_c1 : h0.size ≤ c1 := Nat.le_trans (Keep.refl h0 [a]).1 s1
  obtain ⟨h1, e1⟩ : ∃ z, z = T1.heap := ⟨_, rfl⟩
  rw [← e1] at K1 E1q F1a F1b V1
  have e1 := e1.symm
  have KK1 : Keep h0 h1 [a] := (Keep.refl h0 [a]).trans K1 (allS (P := fun x => x ∈ [a] ∨ h0.size ≤ x) (Or.inl (List.mem_of_getElem? (i := 0) rfl)) all0)
  have N1 := Fr.app N0 M1
  show own_WP _ _ _ _ _ _ _ (T1.setTop (mkF m 6 #[.val (.ref a), .val (.ref sb)] []))
  refine own_ret0 X1 hx (fun _ _ _ _ q => q) hlk hret (hb hby d23_6) (by decide) (by decide) ?_
  rw [e1]
  exact ⟨c1, k1, u1, rfl, N1, KK1, sz_c1, E1q, F1a, F1b, V1, hu1⟩
theorem d22_0 : decode jdk_67_method_42_code 0 = .ok (.new 18, 3) := by decide +kernel
theorem d22_3 : decode jdk_67_method_42_code 3 = .ok (.dup, 1) := by decide +kernel
theorem d22_4 : decode jdk_67_method_42_code 4 = .ok (.aload_n 0, 1) := by decide +kernel
theorem d22_5 : decode jdk_67_method_42_code 5 = .ok (.invokespecial 137, 3) := by decide +kernel
theorem d22_8 : decode jdk_67_method_42_code 8 = .ok (.areturn, 1) := by decide +kernel
theorem pn_22 : plainFor (⟨"java/lang/StringBuilder", "toString", "()Ljava/lang/String;"⟩ : MethodName) = true := plainFor_of_name (by first | (simp [plainName, overriddenIn]; done) | decide +kernel)
theorem ef_con_ts (m : MethodId) (sb : Addr) : entryFrame m #[(.ref sb)] 1 = mkF m 0 #[.val (.ref sb)] [] := by first | (simp [entryFrame, mkF, argsToLocals, Value.category]; done) | rfl
theorem pd28 : parseMethodDescriptor "(Ljava/lang/StringBuilder;)V" = some ⟨[(.object "java/lang/StringBuilder")], none⟩ := by decide +kernel
set_option maxRecDepth 65536 in
set_option maxHeartbeats 4000000 in
theorem con_ts (l : Launch) (Z : State) (a0 : Array Value) (hw : ∀ d ∈ tables_1, d.before a0 Z = true) (sb : Addr) (h0 : Heap) (n0 : Nat) (Z0 : n0 ≤ h0.size) (G1 : Int32) (fm : Value) (hG : own_G Z G1 fm) (X00 : own_Old Z n0 h0) (d : Addr) (kd : ClassId) (cap cnt : Int32) (vs : List Value) (bE : Exa Z h0 sb "java/lang/StringBuilder") (bV : Fld Z h0 sb "java/lang/AbstractStringBuilder" "value" "[B" (.ref d)) (bC : Fld Z h0 sb "java/lang/AbstractStringBuilder" "coder" "B" (.int (0 : Int32))) (bN : Fld Z h0 sb "java/lang/AbstractStringBuilder" "count" "I" (.int cnt)) (bA : Arv Z h0 d kd .byte cap vs (.int (0 : Int32))) (hB : own_BA Z kd)(hcap : 0 ≤ cnt.toInt ∧ cnt.toInt ≤ cap.toInt ∧ cap.toInt ≤ 170) (hlen : vs.length = cap.toNatClampNeg) :
    own_Con l Z (⟨"java/lang/StringBuilder", "toString", "()Ljava/lang/String;"⟩ : MethodName) jdk_67_method_42_code 1 (some (.object "java/lang/String")) ({ frames := 5, cells := 2, slots := 174, locals := 97 } : Room) #[(.ref sb)] h0 (fun v h L => ∃ (a b : Addr) (kb : ClassId) (us : List Value), v = some (.ref a) ∧ Fr n0 L ∧ Keep h0 h [] ∧ h0.size ≤ a ∧ h0.size ≤ b ∧ Exa Z h a "java/lang/String" ∧ Fld Z h a "java/lang/String" "coder" "B" (.int (0 : Int32)) ∧ Fld Z h a "java/lang/String" "value" "[B" (.ref b) ∧ Arv Z h b kb .byte cnt us (.int (0 : Int32)) ∧ us = vs.take cnt.toNatClampNeg) := by
  refine own_Con_of pn_22 ?_
  intro p e s m below meth c s₁ X0 hx hby hml hret hlk hnm hown hZ e0
  have hown : s.vm.findClass "java/lang/StringBuilder" = some m.cls := hown
  have hml : c.maxLocals = 1 := hml
  have N0 := Fr.nil n0
  show own_WP _ _ _ _ _ _ _ (s₁.setTop (entryFrame m #[(.ref sb)] 1))
  rw [ef_con_ts m sb]
  refine own_new (pc' := 3) X0 hx hZ hown (own_w hw 142 rfl) (own_w hw 2 rfl) (own_w hw 3 rfl) e0 (hb hby d22_0) (by decide) (by decide) rfl ?_
  intro T1 h1 b1 g1 X1 e1 E1 A1 D1
  have ne_d_b1 : d ≠ b1 := Nat.ne_of_lt (Nat.lt_of_lt_of_le bA.lt (Nat.le_of_eq g1.symm))
  have ne_b1_d := ne_d_b1.symm
  have ne_sb_b1 : sb ≠ b1 := Nat.ne_of_lt (Nat.lt_of_lt_of_le bE.lt (Nat.le_of_eq g1.symm))
  have ne_b1_sb := ne_sb_b1.symm
  have g_b1 : n0 ≤ b1 := Nat.le_trans Z0 (Nat.le_of_eq g1.symm)
  have sz_b1 : h0.size ≤ b1 := Nat.le_trans (Keep.refl h0 []).1 (Nat.le_of_eq g1.symm)
  have o1 : own_Old Z n0 h1 := X00.ext E1
  have z1 : n0 ≤ h1.size := Nat.le_trans Z0 E1.1
  have K1 : Keep h0 h1 [] := (Keep.refl h0 []).ext E1
  have F1_value : Fld Z h1 b1 "java/lang/String" "value" "[B" .null := D1 (Or.inr (own_w hw 17 rfl)) (ty := (.array .byte)) (by decide +kernel)
  have F1_coder : Fld Z h1 b1 "java/lang/String" "coder" "B" (.int (0 : Int32)) := D1 (Or.inr (own_w hw 18 rfl)) (ty := .byte) (by decide)
  refine own_dup (pc' := 4) X1 hx (hb hby d22_3) rfl rfl ?_
  refine own_aloadN (pc' := 5) X1 hx (hb hby d22_4) rfl rfl rfl ?_
  have f3 := (bE.ext E1)
  have f4 := (bV.ext E1)
  have f5 := (bC.ext E1)
  have f6 := (bN.ext E1)
  have f7 := (bA.ext E1)
  refine own_callN (pc' := 8) (W := 1) (y := (⟨"java/lang/String", "<init>", "(Ljava/lang/StringBuilder;)V"⟩ : MethodName)) X1 hx hZ rfl hown (own_w hw 143 rfl) (own_w hw 144 rfl) (own_w hw 3 rfl) (own_w hw 145 rfl) (by decide) (con_ib l Z a0 hw b1 sb _ n0 z1 G1 fm hG o1 d kd cap cnt vs f3 f4 f5 f6 f7 hB _ _ A1 F1_coder F1_value g_b1 ne_b1_sb ne_sb_b1 ne_b1_d ne_d_b1 hcap hlen) e1 pd28 b1 [(.ref sb)] [(.ref b1)] rfl rfl rfl (Nat.le_of_eq rfl) (by decide) (by decide) (by rw [hml]; rfl) (hb hby d22_5) (by decide) (by decide) rfl ?_
  intro v2 T2 L2 X2 q2
  obtain ⟨c2, k2, u2, rfl, M2, K2, s2, E2q, F2a, F2b, V2, hu2⟩ := q2
  have sz_c2 : h0.size ≤ c2 := Nat.le_trans K1.1 s2
  obtain ⟨h2, e2⟩ : ∃ z, z = T2.heap := ⟨_, rfl⟩
  rw [← e2] at K2 E2q F2a F2b V2
  have e2 := e2.symm
  have KK2 : Keep h0 h2 [] := K1.trans K2 (allS (P := fun x => x ∈ [] ∨ h0.size ≤ x) (Or.inr sz_b1) all0)
  have N2 := Fr.app N0 M2
  show own_WP _ _ _ _ _ _ _ (T2.setTop (mkF m 8 #[.val (.ref sb)] [(.ref b1)]))
  refine own_retA X2 hx (fun _ _ _ _ q => q) hlk rfl hret rfl rfl (hb hby d22_8) (by decide) (by decide) ?_
  rw [e2]
  exact ⟨b1, c2, k2, u2, rfl, N2, KK2, sz_b1, sz_c2, E2q, F2a, F2b, V2, hu2⟩
theorem d5_0 : decode jdk_30_method_1_code 0 = .ok (.aload_n 0, 1) := by decide +kernel
theorem d5_1 : decode jdk_30_method_1_code 1 = .ok (.invokespecial 1, 3) := by decide +kernel
theorem d5_4 : decode jdk_30_method_1_code 4 = .ok (.return_, 1) := by decide +kernel
theorem pn_5 : plainFor (⟨"java/lang/Record", "<init>", "()V"⟩ : MethodName) = true := plainFor_of_name (by first | (simp [plainName, overriddenIn]; done) | decide +kernel)
theorem ef_con_rc (m : MethodId) (a : Addr) : entryFrame m #[(.ref a)] 1 = mkF m 0 #[.val (.ref a)] [] := by first | (simp [entryFrame, mkF, argsToLocals, Value.category]; done) | rfl
set_option maxRecDepth 65536 in
set_option maxHeartbeats 4000000 in
theorem con_rc (l : Launch) (Z : State) (a0 : Array Value) (hw : ∀ d ∈ tables_1, d.before a0 Z = true) (a : Addr) (h0 : Heap) (n0 : Nat) (Z0 : n0 ≤ h0.size) :
    own_Con l Z (⟨"java/lang/Record", "<init>", "()V"⟩ : MethodName) jdk_30_method_1_code 1 none ({ frames := 1, cells := 0, slots := 0, locals := 12 } : Room) #[(.ref a)] h0 (fun v h L => v = none ∧ L = [] ∧ h = h0) := by
  refine own_Con_of pn_5 ?_
  intro p e s m below meth c s₁ X0 hx hby hml hret hlk hnm hown hZ e0
  have hown : s.vm.findClass "java/lang/Record" = some m.cls := hown
  have hml : c.maxLocals = 1 := hml
  show own_WP _ _ _ _ _ _ _ (s₁.setTop (entryFrame m #[(.ref a)] 1))
  rw [ef_con_rc m a]
  refine own_aloadN (pc' := 1) X0 hx (hb hby d5_0) rfl rfl rfl ?_
  refine own_initO (pc' := 4) (W := 0) X0 hx hZ hown (own_w hw 34 rfl) (own_w hw 13 rfl) (own_w hw 14 rfl) e0 (by rw [hml]; rfl) (hb hby d5_1) (by decide) (Nat.le_of_eq rfl) (by decide) rfl ?_
  intro T1 X1 e1
  refine own_ret0 X1 hx (fun _ _ _ _ q => q) hlk hret (hb hby d5_4) (by decide) (by decide) ?_
  exact ⟨rfl, rfl, e1⟩
theorem d4_0 : decode prog_2_method_1_code 0 = .ok (.aload_n 0, 1) := by decide +kernel
theorem d4_1 : decode prog_2_method_1_code 1 = .ok (.invokespecial 1, 3) := by decide +kernel
theorem d4_4 : decode prog_2_method_1_code 4 = .ok (.aload_n 0, 1) := by decide +kernel
theorem d4_5 : decode prog_2_method_1_code 5 = .ok (.lload_n 1, 1) := by decide +kernel
theorem d4_6 : decode prog_2_method_1_code 6 = .ok (.putfield 7, 3) := by decide +kernel
theorem d4_9 : decode prog_2_method_1_code 9 = .ok (.aload_n 0, 1) := by decide +kernel
theorem d4_10 : decode prog_2_method_1_code 10 = .ok (.aload_n 3, 1) := by decide +kernel
theorem d4_11 : decode prog_2_method_1_code 11 = .ok (.putfield 13, 3) := by decide +kernel
theorem d4_14 : decode prog_2_method_1_code 14 = .ok (.return_, 1) := by decide +kernel
theorem pn_4 : plainFor (⟨"com/example/ossify/ossify/AppendReport$Refusal", "<init>", "(JLjava/lang/String;)V"⟩ : MethodName) = true := plainFor_of_name (by first | (simp [plainName, overriddenIn]; done) | decide +kernel)
theorem ef_con_ri (m : MethodId) (a : Addr) (xl : Int64) (r : Addr) : entryFrame m #[(.ref a), (.long xl), (.ref r)] 4 = mkF m 0 #[.val (.ref a), .val (.long xl), .second, .val (.ref r)] [] := by first | (simp [entryFrame, mkF, argsToLocals, Value.category]; done) | rfl
theorem pd29 : parseMethodDescriptor "()V" = some ⟨[], none⟩ := by decide +kernel
set_option maxRecDepth 65536 in
set_option maxHeartbeats 4000000 in
theorem con_ri (l : Launch) (Z : State) (a0 : Array Value) (hw : ∀ d ∈ tables_1, d.before a0 Z = true) (a : Addr) (xl : Int64) (r : Addr) (h0 : Heap) (n0 : Nat) (Z0 : n0 ≤ h0.size) (hE : Exa Z h0 a "com/example/ossify/ossify/AppendReport$Refusal") (hL : Fld Z h0 a "com/example/ossify/ossify/AppendReport$Refusal" "line" "J" (.long (0 : Int64))) (hR : Fld Z h0 a "com/example/ossify/ossify/AppendReport$Refusal" "reason" "Ljava/lang/String;" .null) (g_a : n0 ≤ a) :
    own_Con l Z (⟨"com/example/ossify/ossify/AppendReport$Refusal", "<init>", "(JLjava/lang/String;)V"⟩ : MethodName) prog_2_method_1_code 4 none ({ frames := 2, cells := 0, slots := 0, locals := 26 } : Room) #[(.ref a), (.long xl), (.ref r)] h0 (fun v h L => v = none ∧ Fr n0 L ∧ Keep h0 h [a] ∧ Exa Z h a "com/example/ossify/ossify/AppendReport$Refusal" ∧ Fld Z h a "com/example/ossify/ossify/AppendReport$Refusal" "line" "J" (.long xl) ∧ Fld Z h a "com/example/ossify/ossify/AppendReport$Refusal" "reason" "Ljava/lang/String;" (.ref r)) := by
  refine own_Con_of pn_4 ?_
  intro p e s m below meth c s₁ X0 hx hby hml hret hlk hnm hown hZ e0
  have hown : s.vm.findClass "com/example/ossify/ossify/AppendReport$Refusal" = some m.cls := hown
  have hml : c.maxLocals = 4 := hml
  have N0 := Fr.nil n0
  show own_WP _ _ _ _ _ _ _ (s₁.setTop (entryFrame m #[(.ref a), (.long xl), (.ref r)] 4))
  rw [ef_con_ri m a xl r]
  refine own_aloadN (pc' := 1) X0 hx (hb hby d4_0) rfl rfl rfl ?_
  refine own_callN (pc' := 4) (W := 0) (y := (⟨"java/lang/Record", "<init>", "()V"⟩ : MethodName)) X0 hx hZ rfl hown (own_w hw 29 rfl) (own_w hw 30 rfl) (own_w hw 32 rfl) (own_w hw 33 rfl) (by decide) (con_rc l Z a0 hw a _ n0 Z0) e0 pd29 a [] [] rfl rfl rfl (Nat.le_of_eq rfl) (by decide) (by decide) (by rw [hml]; rfl) (hb hby d4_1) (by decide) (by decide) rfl ?_
  intro v1 T1 L1 X1 q1
  obtain ⟨rfl, rfl, e1⟩ := q1
  have M1 := Fr.nil n0
  have N1 := Fr.app N0 M1
  show own_WP _ _ _ _ _ _ _ (T1.setTop (mkF m 4 #[.val (.ref a), .val (.long xl), .second, .val (.ref r)] []))
  refine own_aloadN (pc' := 5) X1 hx (hb hby d4_4) rfl rfl rfl ?_
  refine own_lloadN (pc' := 6) X1 hx (hb hby d4_5) rfl rfl ?_
  refine own_putF (pc' := 9) X1 hx hZ hown (host := "") (Or.inl (own_w hw 35 rfl)) Via.refl e1 hL hE (Or.inr ⟨(own_w hw 36 rfl), rfl, hnm⟩) (own_w hw 24 rfl) (ty := .long) (by decide) rfl rfl (hb hby d4_6) rfl ?_
  intro T2 h2 X2 e2 W2
  have Fw2 := hL.same W2
  have N2 := Fr.snoc X2 N1 g_a
  have K2 : Keep h0 h2 [a] := (Keep.refl h0 [a]).wr W2 (Or.inl (List.mem_of_getElem? (i := 0) rfl))
  refine own_aloadN (pc' := 10) X2 hx (hb hby d4_9) rfl rfl rfl ?_
  refine own_aloadN (pc' := 11) X2 hx (hb hby d4_10) rfl rfl rfl ?_
  have f3 := (hR.other W2 (Or.inr (slot_ne (Or.inr (own_w hw 38 rfl)) (Or.inr (own_w hw 36 rfl)) (by decide) (t := (.object "java/lang/String")) (t' := .long) (by decide +kernel) (by decide +kernel))))
  have f4 := (hE.wr W2)
  refine own_putF (pc' := 14) X2 hx hZ hown (host := "") (Or.inl (own_w hw 37 rfl)) Via.refl e2 f3 f4 (Or.inr ⟨(own_w hw 38 rfl), rfl, hnm⟩) (own_w hw 24 rfl) (ty := (.object "java/lang/String")) (by decide +kernel) rfl rfl (hb hby d4_11) rfl ?_
  intro T5 h5 X5 e5 W5
  have Fw5 := f3.same W5
  have N5 := Fr.snoc X5 N2 g_a
  have K5 : Keep h0 h5 [a] := K2.wr W5 (Or.inl (List.mem_of_getElem? (i := 0) rfl))
  have f6 := (f4.wr W5)
  have f7 := (Fw2.other W5 (Or.inr (slot_ne (Or.inr (own_w hw 36 rfl)) (Or.inr (own_w hw 38 rfl)) (by decide) (t := .long) (t' := (.object "java/lang/String")) (by decide +kernel) (by decide +kernel))))
  refine own_ret0 X5 hx (fun _ _ _ _ q => q) hlk hret (hb hby d4_14) (by decide) (by decide) ?_
  rw [e5]
  exact ⟨rfl, N5, K5, f6, f7, Fw5⟩
theorem own_wS {Z : State} {a0 : Array Value} (hw : ∀ d ∈ tables_1, d.before a0 Z = true) : ∀ a ∈ Bundle.stringAtoms, a.before a0 Z = true := by
  intro a ha
  simp only [Bundle.stringAtoms, List.mem_cons, List.not_mem_nil, or_false] at ha
  rcases ha with rfl | rfl | rfl | rfl | rfl | rfl | rfl
  · exact (own_w hw 3 rfl)
  · exact (own_w hw 2 rfl)
  · exact (own_w hw 16 rfl)
  · exact (own_w hw 17 rfl)
  · exact (own_w hw 18 rfl)
  · exact (own_w hw 19 rfl)
  · exact (own_w hw 20 rfl)
theorem own_neA {Z : State} {h : Heap} {a b : Addr} {kb : ClassId} {C nm d : String} {v : Value} (A : Arv Z h b kb .byte (0 : Int32) [] (.int 0)) (F : Fld Z h a C nm d v) : b ≠ a := by
  rintro rfl
  obtain ⟨cl, A, q1, S, -⟩ := A
  obtain ⟨c2, cf, k, i, f, e1, -, -, -, -, -, e7⟩ := F
  cases A.1.symm.trans e1
  have q := (Array.getElem?_eq_some_iff.mp e7).1
  rw [S] at q
  exact absurd q (Nat.not_lt_zero _)
theorem ef_con_e4 (m : MethodId) (a : Addr) (cb : Addr) : entryFrame m #[(.ref a), (.ref cb), (.int (0 : Int32)), (.int (0 : Int32)), .null] 6 = mkF m 0 #[.val (.ref a), .val (.ref cb), .val (.int (0 : Int32)), .val (.int (0 : Int32)), .val .null, .unset] [] := by first | (simp [entryFrame, mkF, argsToLocals, Value.category]; done) | rfl
set_option maxRecDepth 65536 in
set_option maxHeartbeats 4000000 in
theorem con_e4 (l : Launch) (Z : State) (a0 : Array Value) (hw : ∀ d ∈ tables_1, d.before a0 Z = true) (a : Addr) (cb : Addr) (h0 : Heap) (n0 : Nat) (Z0 : n0 ≤ h0.size) (G1 : Int32) (fm : Value) (hG : own_G Z G1 fm) (X00 : own_Old Z n0 h0) (hcw : Jvm.Lit.compactW.before a0 Z = true) (hc7 : Jvm.Lit.constHeld Z "java/lang/String" 7) (Ts : List String) (hT0 : "" ∉ Ts) (hE : Exa Z h0 a "java/lang/String") (hC : Fld Z h0 a "java/lang/String" "coder" "B" (.int (0 : Int32))) (hV : Fld Z h0 a "java/lang/String" "value" "[B" .null) (g_a : n0 ≤ a) :
    own_ConW l Z (⟨"java/lang/String", "<init>", "([CIILjava/lang/Void;)V"⟩ : MethodName) jdk_42_method_149_code 6 none ({ frames := 1, cells := 2, slots := 4, locals := 15 } : Room) #[(.ref a), (.ref cb), (.int (0 : Int32)), (.int (0 : Int32)), .null] h0 Ts ("" :: Ts) (fun v h L => ∃ (b : Addr) (kb : ClassId), v = none ∧ Fr n0 L ∧ Keep h0 h [a] ∧ Exa Z h a "java/lang/String" ∧ Fld Z h a "java/lang/String" "coder" "B" (.int (0 : Int32)) ∧ Fld Z h a "java/lang/String" "value" "[B" (.ref b) ∧ Arv Z h b kb .byte (0 : Int32) [] (.int (0 : Int32))) := by
  refine own_ConW_of pn_2 ?_
  intro p e s vm0 m below meth c s₁ X0 hx hby hml hret hlk hnm hown hZ e0 hsh I0 hS
  have hown : vm0.findClass "java/lang/String" = some m.cls := hown
  have hml : c.maxLocals = 6 := hml
  have hkeep : ∀ (b : Addr) (cl : Cell), Z.heap[b]? = some cl → s.heap[b]? = some cl := fun b cl q => by rw [hsh]; exact X00.x.2 b cl q
  have N0 := Fr.nil n0
  have hwS := own_wS hw
  have kz0 : h0.size ≤ h0.size := Nat.le_refl _
  show own_WP _ _ _ _ _ _ _ (s₁.setTop (entryFrame m #[(.ref a), (.ref cb), (.int (0 : Int32)), (.int (0 : Int32)), .null] 6))
  rw [ef_con_e4 m a cb]
  refine own_aloadN (pc' := 1) X0 hx (hb hby d2_0) rfl rfl rfl ?_
  refine own_initO (pc' := 4) (W := 0) X0 hx hZ hown (own_w hw 12 rfl) (own_w hw 13 rfl) (own_w hw 14 rfl) e0 (by rw [hml]; rfl) (hb hby d2_1) (by decide) (Nat.le_of_eq rfl) (by decide) rfl ?_
  intro T1 X1 e1
  refine own_iloadN (pc' := 5) X1 hx (hb hby d2_4) rfl rfl ?_
  refine own_if_ne (pt := 27) (pf := 8) X1 hx (hb hby d2_5) rfl (by decide) rfl (fun hc5 => absurd (by decide) hc5) (fun hc5 => ?_)
  refine own_aloadN (pc' := 9) X1 hx (hb hby d2_8) rfl rfl rfl ?_
  refine own_ldcS (pc' := 11) (nn := 0) (z := (0 : Int32)) (vs := []) X1 hx hZ hown (own_w hw 15 rfl) hwS e1 hS kz0 (Fr.nil h0.size) (by rw [hsh]) hkeep I0 hT0 hc7 hcw ⟨by decide +kernel, by decide +kernel⟩ (by decide) rfl (hb hby d2_9) (by decide +kernel) (by decide) (by decide) (by decide) rfl ?_
  intro la2 T2 h2 kq2 lb2 lk2 X2 e2 E2 hS kz2 hZ hown Eq2 Fc2 Fv2 V2 I2 Lt2 or2
  have K2 : Keep h0 h2 [a] := (Keep.refl h0 [a]).ext E2
  have f3 := (hV.ext E2)
  have ne_la2_a : la2 ≠ a := Fld.ne Fv2 f3 (by simp)
  have ne_lb2_a : lb2 ≠ a := own_neA V2 f3
  show own_WP _ _ _ _ _ _ _ (T2.setTop (mkF m 11 #[.val (.ref a), .val (.ref cb), .val (.int (0 : Int32)), .val (.int (0 : Int32)), .val .null, .unset] [(.ref la2), (.ref a)]))
  refine own_getF (pc' := 14) X2 hx hZ hown (host := "") (Or.inl (own_w hw 21 rfl)) Via.refl e2 Fv2 (hb hby d2_11) rfl ?_
  intro T4 X4 e4
  have f5 := (hE.ext E2)
  refine own_putF (pc' := 17) X4 hx hZ hown (host := "") (Or.inl (own_w hw 21 rfl)) Via.refl e4 f3 f5 (Or.inr ⟨(own_w hw 17 rfl), rfl, hnm⟩) (own_w hw 2 rfl) (ty := (.array .byte)) (by decide +kernel) rfl rfl (hb hby d2_14) rfl ?_
  intro T6 h6 X6 e6 W6
  have kz6 := Nat.le_trans kz2 (Keep.of_wr W6).1
  have Fw6 := f3.same W6
  have N6 := Fr.snoc X6 N0 g_a
  have K6 : Keep h0 h6 [a] := K2.wr W6 (Or.inl (List.mem_of_getElem? (i := 0) rfl))
  refine own_aloadN (pc' := 18) X6 hx (hb hby d2_17) rfl rfl rfl ?_
  refine own_ldcA (pc' := 20) X6 hx hZ hown (own_w hw 15 rfl) Lt2 (hb hby d2_18) rfl ?_
  have f7 := (Fc2.other W6 (Or.inl ne_la2_a))
  refine own_getF (pc' := 23) X6 hx hZ hown (host := "") (Or.inl (own_w hw 22 rfl)) Via.refl e6 f7 (hb hby d2_20) rfl ?_
  intro T8 X8 e8
  have f9 := ((hC.ext E2).other W6 (Or.inr (slot_ne (Or.inr (own_w hw 18 rfl)) (Or.inr (own_w hw 17 rfl)) (by decide) (t := .byte) (t' := (.array .byte)) (by decide +kernel) (by decide +kernel))))
  have f10 := (f5.wr W6)
  refine own_putF (pc' := 26) X8 hx hZ hown (host := "") (Or.inl (own_w hw 22 rfl)) Via.refl e8 f9 f10 (Or.inr ⟨(own_w hw 18 rfl), rfl, hnm⟩) (own_w hw 2 rfl) (ty := .byte) (by decide) rfl rfl (hb hby d2_23) rfl ?_
  intro T11 h11 X11 e11 W11
  have kz11 := Nat.le_trans kz6 (Keep.of_wr W11).1
  have Fw11 := f9.same W11
  have N11 := Fr.snoc X11 N6 g_a
  have K11 : Keep h0 h11 [a] := K6.wr W11 (Or.inl (List.mem_of_getElem? (i := 0) rfl))
  have f12 := (f10.wr W11)
  have f13 := (Fw6.other W11 (Or.inr (slot_ne (Or.inr (own_w hw 17 rfl)) (Or.inr (own_w hw 18 rfl)) (by decide) (t := (.array .byte)) (t' := .byte) (by decide +kernel) (by decide +kernel))))
  have f14 := ((V2.other W6 ne_lb2_a).other W11 ne_lb2_a)
  refine own_ret0 X11 hx (own_FW2 hZ I2 hS (by rw [e11]; exact kz11)) hlk hret (hb hby d2_26) (by decide) (by decide) ?_
  rw [e11]
  exact ⟨lb2, lk2, rfl, N11, K11, f12, Fw11, f13, f14⟩
theorem ef_con_e1 (m : MethodId) (a : Addr) (cb : Addr) : entryFrame m #[(.ref a), (.ref cb)] 2 = mkF m 0 #[.val (.ref a), .val (.ref cb)] [] := by first | (simp [entryFrame, mkF, argsToLocals, Value.category]; done) | rfl
set_option maxRecDepth 65536 in
set_option maxHeartbeats 4000000 in
theorem con_e1 (l : Launch) (Z : State) (a0 : Array Value) (hw : ∀ d ∈ tables_1, d.before a0 Z = true) (a : Addr) (cb : Addr) (h0 : Heap) (n0 : Nat) (Z0 : n0 ≤ h0.size) (G1 : Int32) (fm : Value) (hG : own_G Z G1 fm) (X00 : own_Old Z n0 h0) (hcw : Jvm.Lit.compactW.before a0 Z = true) (hc7 : Jvm.Lit.constHeld Z "java/lang/String" 7) (Ts : List String) (hT0 : "" ∉ Ts) (hE : Exa Z h0 a "java/lang/String") (hC : Fld Z h0 a "java/lang/String" "coder" "B" (.int (0 : Int32))) (hV : Fld Z h0 a "java/lang/String" "value" "[B" .null) (g_a : n0 ≤ a) (kc : ClassId) (hB : Arv Z h0 cb kc .char (0 : Int32) [] (.int (0 : Int32))) :
    own_ConW l Z (⟨"java/lang/String", "<init>", "([C)V"⟩ : MethodName) jdk_42_method_3_code 2 none ({ frames := 2, cells := 2, slots := 4, locals := 32 } : Room) #[(.ref a), (.ref cb)] h0 Ts ("" :: Ts) (fun v h L => ∃ (b : Addr) (kb : ClassId), v = none ∧ Fr n0 L ∧ Keep h0 h [a] ∧ Exa Z h a "java/lang/String" ∧ Fld Z h a "java/lang/String" "coder" "B" (.int (0 : Int32)) ∧ Fld Z h a "java/lang/String" "value" "[B" (.ref b) ∧ Arv Z h b kb .byte (0 : Int32) [] (.int (0 : Int32))) := by
  refine own_ConW_of pn_1 ?_
  intro p e s vm0 m below meth c s₁ X0 hx hby hml hret hlk hnm hown hZ e0 hsh I0 hS
  have hown : vm0.findClass "java/lang/String" = some m.cls := hown
  have hml : c.maxLocals = 2 := hml
  have hkeep : ∀ (b : Addr) (cl : Cell), Z.heap[b]? = some cl → s.heap[b]? = some cl := fun b cl q => by rw [hsh]; exact X00.x.2 b cl q
  have N0 := Fr.nil n0
  have hwS := own_wS hw
  have kz0 : h0.size ≤ h0.size := Nat.le_refl _
  show own_WP _ _ _ _ _ _ _ (s₁.setTop (entryFrame m #[(.ref a), (.ref cb)] 2))
  rw [ef_con_e1 m a cb]
  refine own_aloadN (pc' := 1) X0 hx (hb hby d1_0) rfl rfl rfl ?_
  refine own_aloadN (pc' := 2) X0 hx (hb hby d1_1) rfl rfl rfl ?_
  refine own_iconst (pc' := 3) X0 hx (0 : Int32) (hb hby d1_2) rfl rfl ?_
  refine own_aloadN (pc' := 4) X0 hx (hb hby d1_3) rfl rfl rfl ?_
  refine own_arrlen (pc' := 5) X0 hx hZ e0 hB (hb hby d1_4) rfl ?_
  refine own_anull (pc' := 6) X0 hx (hb hby d1_5) rfl ?_
  refine own_callNW (pc' := 9) (W := 0) (y := (⟨"java/lang/String", "<init>", "([CIILjava/lang/Void;)V"⟩ : MethodName)) X0 hx hZ rfl hown (own_w hw 8 rfl) (own_w hw 9 rfl) (own_w hw 3 rfl) (own_w hw 11 rfl) (by decide) (con_e4 l Z a0 hw a cb _ n0 Z0 G1 fm hG X00 hcw hc7 _ hT0 hE hC hV g_a) e0 I0 hS kz0 pd11 [(.ref cb), (.int (0 : Int32)), (.int (0 : Int32)), .null] [] rfl rfl rfl (Nat.le_of_eq rfl) (by decide) (by decide) (by rw [hml]; rfl) (hb hby d1_6) (by decide) (by decide) rfl ?_
  intro v1 T1 L1 kq1 X1 hS kz1 hZ hown I1 q1
  obtain ⟨c1, k1, rfl, M1, K1, E1q, F1a, F1b, V1⟩ := q1
  obtain ⟨h1, e1⟩ : ∃ z, z = T1.heap := ⟨_, rfl⟩
  rw [← e1] at K1 E1q F1a F1b V1 kz1
  have e1 := e1.symm
  have KK1 : Keep h0 h1 [a] := (Keep.refl h0 [a]).trans K1 (allS (P := fun x => x ∈ [a] ∨ h0.size ≤ x) (Or.inl (List.mem_of_getElem? (i := 0) rfl)) all0)
  have N1 := Fr.app N0 M1
  show own_WP _ _ _ _ _ _ _ (T1.setTop (mkF m 9 #[.val (.ref a), .val (.ref cb)] []))
  refine own_ret0 X1 hx (own_FW2 hZ I1 hS (by rw [e1]; exact kz1)) hlk hret (hb hby d1_9) (by decide) (by decide) ?_
  rw [e1]
  exact ⟨c1, k1, rfl, N1, KK1, E1q, F1a, F1b, V1⟩
theorem d6_0 : decode prog_2_method_2_code 0 = .ok (.new 17, 3) := by decide +kernel
theorem d6_3 : decode prog_2_method_2_code 3 = .ok (.dup, 1) := by decide +kernel
theorem d6_4 : decode prog_2_method_2_code 4 = .ok (.invokespecial 19, 3) := by decide +kernel
theorem d6_7 : decode prog_2_method_2_code 7 = .ok (.ldc 20, 2) := by decide +kernel
theorem d6_9 : decode prog_2_method_2_code 9 = .ok (.invokevirtual 22, 3) := by decide +kernel
theorem d6_12 : decode prog_2_method_2_code 12 = .ok (.aload_n 0, 1) := by decide +kernel
theorem d6_13 : decode prog_2_method_2_code 13 = .ok (.getfield 7, 3) := by decide +kernel
theorem d6_16 : decode prog_2_method_2_code 16 = .ok (.invokevirtual 26, 3) := by decide +kernel
theorem d6_19 : decode prog_2_method_2_code 19 = .ok (.ldc 29, 2) := by decide +kernel
theorem d6_21 : decode prog_2_method_2_code 21 = .ok (.invokevirtual 22, 3) := by decide +kernel
theorem d6_24 : decode prog_2_method_2_code 24 = .ok (.aload_n 0, 1) := by decide +kernel
theorem d6_25 : decode prog_2_method_2_code 25 = .ok (.getfield 13, 3) := by decide +kernel
theorem d6_28 : decode prog_2_method_2_code 28 = .ok (.invokevirtual 22, 3) := by decide +kernel
theorem d6_31 : decode prog_2_method_2_code 31 = .ok (.invokevirtual 31, 3) := by decide +kernel
theorem d6_34 : decode prog_2_method_2_code 34 = .ok (.areturn, 1) := by decide +kernel
theorem pn_6 : plainFor (⟨"com/example/ossify/ossify/AppendReport$Refusal", "describe", "()Ljava/lang/String;"⟩ : MethodName) = true := plainFor_of_name (by first | (simp [plainName, overriddenIn]; done) | decide +kernel)
theorem ef_con_de (m : MethodId) (a : Addr) : entryFrame m #[(.ref a)] 1 = mkF m 0 #[.val (.ref a)] [] := by first | (simp [entryFrame, mkF, argsToLocals, Value.category]; done) | rfl
theorem pd30 : parseMethodDescriptor "(Ljava/lang/String;)Ljava/lang/StringBuilder;" = some ⟨[(.object "java/lang/String")], some (.object "java/lang/StringBuilder")⟩ := by decide +kernel
theorem pd31 : parseMethodDescriptor "(J)Ljava/lang/StringBuilder;" = some ⟨[.long], some (.object "java/lang/StringBuilder")⟩ := by decide +kernel
theorem pd32 : parseMethodDescriptor "()Ljava/lang/String;" = some ⟨[], some (.object "java/lang/String")⟩ := by decide +kernel
set_option maxRecDepth 65536 in
set_option maxHeartbeats 4000000 in
theorem con_de (l : Launch) (Z : State) (a0 : Array Value) (hw : ∀ d ∈ tables_1, d.before a0 Z = true) (a : Addr) (h0 : Heap) (G1 : Int32) (fm : Value) (hG : own_G Z G1 fm) (X00 : own_Old Z h0.size h0) (hcw : Jvm.Lit.compactW.before a0 Z = true) (da db : Addr) (ko kt : ClassId) (hD : own_D Z da ko db kt) (hc20 : Jvm.Lit.constHeld Z "com/example/ossify/ossify/AppendReport$Refusal" 20) (hc29 : Jvm.Lit.constHeld Z "com/example/ossify/ossify/AppendReport$Refusal" 29) (Ts : List String) (hT1 : "refused line " ∉ Ts) (hT2 : ": " ∉ Ts) (xl : Int64) (hE : Exa Z h0 a "com/example/ossify/ossify/AppendReport$Refusal") (r rb : Addr) (krb : ClassId) (zr : Int32) (ws : List Value) (rE : Exa Z h0 r "java/lang/String") (rC : Fld Z h0 r "java/lang/String" "coder" "B" (.int (0 : Int32))) (rV : Fld Z h0 r "java/lang/String" "value" "[B" (.ref rb)) (rA : Arv Z h0 rb krb .byte zr ws (.int (0 : Int32))) (hwsl : ws.length = zr.toNatClampNeg) (hzr : 0 ≤ zr.toInt ∧ zr.toInt ≤ 2) (hLi : Fld Z h0 a "com/example/ossify/ossify/AppendReport$Refusal" "line" "J" (.long xl)) (hRe : Fld Z h0 a "com/example/ossify/ossify/AppendReport$Refusal" "reason" "Ljava/lang/String;" (.ref r)) :
    own_ConW l Z (⟨"com/example/ossify/ossify/AppendReport$Refusal", "describe", "()Ljava/lang/String;"⟩ : MethodName) prog_2_method_2_code 1 (some (.object "java/lang/String")) ({ frames := 6, cells := 12, slots := 1200, locals := 118 } : Room) #[(.ref a)] h0 Ts (": " :: "refused line " :: Ts) (fun v h L => ∃ (t b : Addr) (kb : ClassId) (cn : Int32) (us : List Value) (kk : Nat) (ng : Int32), v = some (.ref t) ∧ Fr h0.size L ∧ Keep h0 h [] ∧ h0.size ≤ t ∧ h0.size ≤ b ∧ Exa Z h t "java/lang/String" ∧ Fld Z h t "java/lang/String" "coder" "B" (.int (0 : Int32)) ∧ Fld Z h t "java/lang/String" "value" "[B" (.ref b) ∧ Arv Z h b kb .byte cn us (.int (0 : Int32)) ∧ own_dgs xl.toInt.natAbs kk ∧ ((xl.toInt < 0 ∧ ng = 1) ∨ (¬ xl.toInt < 0 ∧ ng = 0)) ∧ cn.toInt = 15 + (kk : Int) + ng.toInt + zr.toInt ∧ us = [.int (114 : Int32), .int (101 : Int32), .int (102 : Int32), .int (117 : Int32), .int (115 : Int32), .int (101 : Int32), .int (100 : Int32), .int (32 : Int32), .int (108 : Int32), .int (105 : Int32), .int (110 : Int32), .int (101 : Int32), .int (32 : Int32)] ++ (own_num xl.toInt.natAbs kk ng ++ ([.int (58 : Int32), .int (32 : Int32)] ++ ws))) := by
  refine own_ConW_of pn_6 ?_
  intro p e s vm0 m below meth c s₁ X0 hx hby hml hret hlk hnm hown hZ e0 hsh I0 hS
  have hown : vm0.findClass "com/example/ossify/ossify/AppendReport$Refusal" = some m.cls := hown
  have hml : c.maxLocals = 1 := hml
  obtain ⟨n0, hn0⟩ : ∃ z, z = h0.size := ⟨_, rfl⟩
  have Z0 : n0 ≤ h0.size := Nat.le_of_eq hn0
  rw [← hn0] at X00
  have hsn : s.heap.size = n0 := by rw [hsh, hn0]
  have hkeep : ∀ (b : Addr) (cl : Cell), Z.heap[b]? = some cl → s.heap[b]? = some cl := fun b cl q => by rw [hsh]; exact X00.x.2 b cl q
  have N0 := Fr.nil n0
  have hwS := own_wS hw
  have kz0 : h0.size ≤ h0.size := Nat.le_refl _
  show own_WP _ _ _ _ _ _ _ (s₁.setTop (entryFrame m #[(.ref a)] 1))
  rw [ef_con_de m a]
  refine own_new (pc' := 3) X0 hx hZ hown (own_w hw 44 rfl) (own_w hw 45 rfl) (own_w hw 46 rfl) e0 (hb hby d6_0) (by decide) (by decide) rfl ?_
  intro T1 h1 b1 g1 X1 e1 E1 A1 D1
  have ne_a_b1 : a ≠ b1 := Nat.ne_of_lt (Nat.lt_of_lt_of_le hE.lt (Nat.le_of_eq g1.symm))
  have ne_r_b1 : r ≠ b1 := Nat.ne_of_lt (Nat.lt_of_lt_of_le rE.lt (Nat.le_of_eq g1.symm))
  have ne_b1_r := ne_r_b1.symm
  have ne_rb_b1 : rb ≠ b1 := Nat.ne_of_lt (Nat.lt_of_lt_of_le rA.lt (Nat.le_of_eq g1.symm))
  have g_b1 : n0 ≤ b1 := Nat.le_trans Z0 (Nat.le_of_eq g1.symm)
  have sz_b1 : h0.size ≤ b1 := Nat.le_trans (Keep.refl h0 []).1 (Nat.le_of_eq g1.symm)
  have o1 : own_Old Z n0 h1 := X00.ext E1
  have kz1 := Nat.le_trans kz0 E1.1
  have z1 : n0 ≤ h1.size := Nat.le_trans Z0 E1.1
  have K1 : Keep h0 h1 [] := (Keep.refl h0 []).ext E1
  have F1_value : Fld Z h1 b1 "java/lang/AbstractStringBuilder" "value" "[B" .null := D1 (Or.inl (own_w hw 59 rfl)) (ty := (.array .byte)) (by decide +kernel)
  have F1_coder : Fld Z h1 b1 "java/lang/AbstractStringBuilder" "coder" "B" (.int (0 : Int32)) := D1 (Or.inl (own_w hw 61 rfl)) (ty := .byte) (by decide)
  have F1_count : Fld Z h1 b1 "java/lang/AbstractStringBuilder" "count" "I" (.int (0 : Int32)) := D1 (Or.inl (own_w hw 85 rfl)) (ty := .int) (by decide)
  refine own_dup (pc' := 4) X1 hx (hb hby d6_3) rfl rfl ?_
  refine own_callN (pc' := 7) (W := 1) (y := (⟨"java/lang/StringBuilder", "<init>", "()V"⟩ : MethodName)) X1 hx hZ rfl hown (own_w hw 47 rfl) (own_w hw 48 rfl) (own_w hw 46 rfl) (own_w hw 49 rfl) (by decide) (con_si l Z a0 hw b1 _ n0 z1 G1 fm hG o1 A1 F1_value F1_coder F1_count g_b1) e1 pd29 b1 [] [(.ref b1)] rfl rfl rfl (Nat.le_of_eq rfl) (by decide) (by decide) (by rw [hml]; rfl) (hb hby d6_4) (by decide) (by decide) rfl ?_
  intro v2 T2 L2 X2 q2
  obtain ⟨c2, k2, rfl, M2, K2, s2, E2q, F2a, F2b, F2c, V2, Bk2⟩ := q2
  have f3 := (hE.ext E1)
  have ne_a_c2 : a ≠ c2 := Nat.ne_of_lt (Nat.lt_of_lt_of_le f3.lt s2)
  have ne_b1_c2 : b1 ≠ c2 := Nat.ne_of_lt (Nat.lt_of_lt_of_le A1.lt s2)
  have ne_c2_b1 := ne_b1_c2.symm
  have f4 := (rE.ext E1)
  have ne_r_c2 : r ≠ c2 := Nat.ne_of_lt (Nat.lt_of_lt_of_le f4.lt s2)
  have f5 := (rA.ext E1)
  have ne_rb_c2 : rb ≠ c2 := Nat.ne_of_lt (Nat.lt_of_lt_of_le f5.lt s2)
  have g_c2 : n0 ≤ c2 := Nat.le_trans z1 s2
  have sz_c2 : h0.size ≤ c2 := Nat.le_trans K1.1 s2
  obtain ⟨h2, e2⟩ : ∃ z, z = T2.heap := ⟨_, rfl⟩
  rw [← e2] at K2 E2q F2a F2b F2c V2
  have e2 := e2.symm
  have o2 : own_Old Z n0 h2 := o1.keep K2 (allS g_b1 all0)
  have kz2 := Nat.le_trans kz1 K2.1
  have z2 : n0 ≤ h2.size := Nat.le_trans z1 K2.1
  have KK2 : Keep h0 h2 [] := K1.trans K2 (allS (P := fun x => x ∈ [] ∨ h0.size ≤ x) (Or.inr sz_b1) all0)
  have N2 := Fr.app N0 M2
  show own_WP _ _ _ _ _ _ _ (T2.setTop (mkF m 7 #[.val (.ref a)] [(.ref b1)]))
  refine own_ldcS (pc' := 9) (nn := 52) (z := (13 : Int32)) (vs := [.int (114 : Int32), .int (101 : Int32), .int (102 : Int32), .int (117 : Int32), .int (115 : Int32), .int (101 : Int32), .int (100 : Int32), .int (32 : Int32), .int (108 : Int32), .int (105 : Int32), .int (110 : Int32), .int (101 : Int32), .int (32 : Int32)]) X2 hx hZ hown (own_w hw 62 rfl) hwS e2 hS kz2 N2 hsn hkeep I0 hT1 hc20 hcw ⟨by decide +kernel, by decide +kernel⟩ (by decide) rfl (hb hby d6_7) (by decide +kernel) (by decide) (by decide) (by decide) rfl ?_
  intro la6 T6 h6 kq6 lb6 lk6 X6 e6 E6 hS kz6 hZ hown Eq6 Fc6 Fv6 V6 I6 Lt6 or6
  have ne_la6_b1 : la6 ≠ b1 := (own_neL or6 g_b1 E2q.lt).1
  have ne_b1_la6 := ne_la6_b1.symm
  have ne_lb6_b1 : lb6 ≠ b1 := (own_neL or6 g_b1 E2q.lt).2
  have ne_la6_c2 : la6 ≠ c2 := (own_neL or6 g_c2 V2.lt).1
  have ne_lb6_c2 : lb6 ≠ c2 := (own_neL or6 g_c2 V2.lt).2
  have o6 : own_Old Z n0 h6 := o2.ext E6
  have z6 : n0 ≤ h6.size := Nat.le_trans z2 E6.1
  have K6 : Keep h0 h6 [] := KK2.ext E6
  show own_WP _ _ _ _ _ _ _ (T6.setTop (mkF m 9 #[.val (.ref a)] [(.ref la6), (.ref b1)]))
  have f8 := (E2q.ext E6)
  have f9 := (F2a.ext E6)
  have f10 := (F2b.ext E6)
  have f11 := (F2c.ext E6)
  have f12 := (V2.ext E6)
  refine own_callV (pc' := 12) (W := 0) (y := (⟨"java/lang/StringBuilder", "append", "(Ljava/lang/String;)Ljava/lang/StringBuilder;"⟩ : MethodName)) (z := (⟨"java/lang/StringBuilder", "append", "(Ljava/lang/String;)Ljava/lang/StringBuilder;"⟩ : MethodName)) X6 hx hZ hown (own_w hw 63 rfl) (own_w hw 64 rfl) (notFace_of_selects (args := #[]) (mvT hZ (own_w hw 66 rfl))) (own_w hw 66 rfl) (own_w hw 65 rfl) (own_w hw 46 rfl) (own_w hw 67 rfl) (by decide) f8 (con_ss l Z a0 hw b1 la6 _ n0 z6 G1 fm hG o6 c2 k2 (16 : Int32) (0 : Int32) (List.replicate 16 (.int (0 : Int32))) f8 f9 f10 f11 f12 Bk2 lb6 lk6 (13 : Int32) _ Eq6 Fc6 Fv6 V6 ne_b1_c2 ne_c2_b1 g_b1 g_c2 (by decide) (by decide) rfl (by decide) ne_la6_c2 ne_lb6_c2 ne_la6_b1 ne_lb6_b1 ne_b1_la6) e6 pd30 [(.ref la6)] [] rfl rfl rfl (Nat.le_of_eq rfl) (by decide) (by decide) (by rw [hml]; rfl) (hb hby d6_9) (by decide) (by decide) rfl ?_
  intro v7 T7 L7 X7 q7
  obtain ⟨c7, k7, cp7, ct7, u7, rfl, M7, K7, hor7, g_c7, nsb7, E7q, F7a, F7b, F7c, V7, Bk7, lu7, hcp7, hct7, tu7⟩ := q7
  have f13 := ((f3.keep K2).ext E6)
  have ne_a_c7 : a ≠ c7 := own_ne2 ne_a_c2 f13.lt hor7
  have ne_b1_c7 : b1 ≠ c7 := own_ne2 ne_b1_c2 f8.lt hor7
  have ne_c7_b1 := ne_b1_c7.symm
  have f14 := ((f4.keep K2).ext E6)
  have ne_r_c7 : r ≠ c7 := own_ne2 ne_r_c2 f14.lt hor7
  have f15 := ((f5.keep K2 (ninS ne_rb_b1 nin0)).ext E6)
  have ne_rb_c7 : rb ≠ c7 := own_ne2 ne_rb_c2 f15.lt hor7
  obtain ⟨h7, e7⟩ : ∃ z, z = T7.heap := ⟨_, rfl⟩
  rw [← e7] at K7 E7q F7a F7b F7c V7
  have e7 := e7.symm
  have o7 : own_Old Z n0 h7 := o6.keep K7 (allS g_b1 (allS g_c2 all0))
  have kz7 := Nat.le_trans kz6 K7.1
  have z7 : n0 ≤ h7.size := Nat.le_trans z6 K7.1
  have KK7 : Keep h0 h7 [] := K6.trans K7 (allS (P := fun x => x ∈ [] ∨ h0.size ≤ x) (Or.inr sz_b1) (allS (P := fun x => x ∈ [] ∨ h0.size ≤ x) (Or.inr sz_c2) all0))
  have N7 := Fr.app N2 M7
  have sz_c7 : h0.size ≤ c7 := hn0 ▸ g_c7
  have b7q : ct7.toInt = 13 ∧ cp7.toInt = 16 := ⟨by rw [hct7]; rfl, by rw [hcp7]; rfl⟩
  have n7q := own_nat (x := ct7) (by omega)
  have t7q : u7.take ct7.toNatClampNeg = [.int (114 : Int32), .int (101 : Int32), .int (102 : Int32), .int (117 : Int32), .int (115 : Int32), .int (101 : Int32), .int (100 : Int32), .int (32 : Int32), .int (108 : Int32), .int (105 : Int32), .int (110 : Int32), .int (101 : Int32), .int (32 : Int32)] := by rw [show ct7.toNatClampNeg = (0 : Int32).toNatClampNeg + (13 : Int32).toNatClampNeg by show _ = 0 + 13; omega, tu7]; rfl
  show own_WP _ _ _ _ _ _ _ (T7.setTop (mkF m 12 #[.val (.ref a)] [(.ref b1)]))
  refine own_aloadN (pc' := 13) X7 hx (hb hby d6_12) rfl rfl rfl ?_
  have f16 := ((((hLi.ext E1).keep K2 (ninS ne_a_b1 nin0)).ext E6).keep K7 (ninS ne_a_b1 (ninS ne_a_c2 nin0)))
  refine own_getF (pc' := 16) X7 hx hZ hown (host := "") (Or.inl (own_w hw 35 rfl)) Via.refl e7 f16 (hb hby d6_13) rfl ?_
  intro T17 X17 e17
  refine own_callV (pc' := 19) (W := 0) (y := (⟨"java/lang/StringBuilder", "append", "(J)Ljava/lang/StringBuilder;"⟩ : MethodName)) (z := (⟨"java/lang/StringBuilder", "append", "(J)Ljava/lang/StringBuilder;"⟩ : MethodName)) X17 hx hZ hown (own_w hw 111 rfl) (own_w hw 112 rfl) (notFace_of_selects (args := #[]) (mvT hZ (own_w hw 114 rfl))) (own_w hw 114 rfl) (own_w hw 113 rfl) (own_w hw 46 rfl) (own_w hw 115 rfl) (by decide) E7q (con_sj l Z a0 hw b1 xl _ n0 z7 G1 fm hG o7 c7 k7 cp7 ct7 u7 E7q F7a F7b F7c V7 Bk7 ne_b1_c7 ne_c7_b1 g_b1 g_c7 (by omega) lu7 da db ko kt hD) e17 pd31 [(.long xl)] [] rfl rfl rfl (Nat.le_of_eq rfl) (by decide) (by decide) (by rw [hml]; rfl) (hb hby d6_16) (by decide) (by decide) rfl ?_
  intro v18 T18 L18 X18 q18
  obtain ⟨c18, k18, cp18, ct18, u18, kk, ng, rfl, M18, K18, hor18, g_c18, nsb18, E18q, F18a, F18b, F18c, V18, Bk18, lu18, hcp18, hkk, hngx, hct18, tu18⟩ := q18
  have f19 := (f13.keep K7)
  have ne_a_c18 : a ≠ c18 := own_ne2 ne_a_c7 f19.lt hor18
  have ne_b1_c18 : b1 ≠ c18 := own_ne2 ne_b1_c7 E7q.lt hor18
  have ne_c18_b1 := ne_b1_c18.symm
  have f22 := (f14.keep K7)
  have ne_r_c18 : r ≠ c18 := own_ne2 ne_r_c7 f22.lt hor18
  have f23 := (f15.keep K7 (ninS ne_rb_b1 (ninS ne_rb_c2 nin0)))
  have ne_rb_c18 : rb ≠ c18 := own_ne2 ne_rb_c7 f23.lt hor18
  obtain ⟨h18, e18⟩ : ∃ z, z = T18.heap := ⟨_, rfl⟩
  rw [← e18] at K18 E18q F18a F18b F18c V18
  have e18 := e18.symm
  have o18 : own_Old Z n0 h18 := o7.keep K18 (allS g_b1 (allS g_c7 all0))
  have kz18 := Nat.le_trans kz7 K18.1
  have z18 : n0 ≤ h18.size := Nat.le_trans z7 K18.1
  have KK18 : Keep h0 h18 [] := KK7.trans K18 (allS (P := fun x => x ∈ [] ∨ h0.size ≤ x) (Or.inr sz_b1) (allS (P := fun x => x ∈ [] ∨ h0.size ≤ x) (Or.inr sz_c7) all0))
  have N18 := Fr.app N7 M18
  have sz_c18 : h0.size ≤ c18 := hn0 ▸ g_c18
  have hk19 := own_dgs_le hkk (by have := rng64 xl; omega)
  have hngt : ng.toInt = 0 ∨ ng.toInt = 1 := hngx.elim (fun q => Or.inr (by rw [q.2]; rfl)) (fun q => Or.inl (by rw [q.2]; rfl))
  have b18q : ct18.toInt ≤ cp18.toInt ∧ cp18.toInt ≤ 34 := by rw [hcp18]; unfold own_cap; split <;> omega
  have n18q := own_nat (x := ct18) (by omega)
  have t18q := tu18
  rw [t7q] at t18q
  show own_WP _ _ _ _ _ _ _ (T18.setTop (mkF m 19 #[.val (.ref a)] [(.ref b1)]))
  refine own_ldcS (pc' := 21) (nn := 8) (z := (2 : Int32)) (vs := [.int (58 : Int32), .int (32 : Int32)]) X18 hx hZ hown (own_w hw 136 rfl) hwS e18 hS kz18 N18 hsn hkeep I6 (fun q => (List.mem_cons.mp q).elim (fun e => absurd e (by decide +kernel)) hT2) hc29 hcw ⟨by decide +kernel, by decide +kernel⟩ (by decide) rfl (hb hby d6_19) (by decide +kernel) (by decide) (by decide) (by decide) rfl ?_
  intro la24 T24 h24 kq24 lb24 lk24 X24 e24 E24 hS kz24 hZ hown Eq24 Fc24 Fv24 V24 I24 Lt24 or24
  have ne_la24_b1 : la24 ≠ b1 := (own_neL or24 g_b1 E18q.lt).1
  have ne_b1_la24 := ne_la24_b1.symm
  have ne_lb24_b1 : lb24 ≠ b1 := (own_neL or24 g_b1 E18q.lt).2
  have ne_la24_c18 : la24 ≠ c18 := (own_neL or24 g_c18 V18.lt).1
  have ne_lb24_c18 : lb24 ≠ c18 := (own_neL or24 g_c18 V18.lt).2
  have o24 : own_Old Z n0 h24 := o18.ext E24
  have z24 : n0 ≤ h24.size := Nat.le_trans z18 E24.1
  have K24 : Keep h0 h24 [] := KK18.ext E24
  show own_WP _ _ _ _ _ _ _ (T24.setTop (mkF m 21 #[.val (.ref a)] [(.ref la24), (.ref b1)]))
  have f26 := (E18q.ext E24)
  have f27 := (F18a.ext E24)
  have f28 := (F18b.ext E24)
  have f29 := (F18c.ext E24)
  have f30 := (V18.ext E24)
  refine own_callV (pc' := 24) (W := 0) (y := (⟨"java/lang/StringBuilder", "append", "(Ljava/lang/String;)Ljava/lang/StringBuilder;"⟩ : MethodName)) (z := (⟨"java/lang/StringBuilder", "append", "(Ljava/lang/String;)Ljava/lang/StringBuilder;"⟩ : MethodName)) X24 hx hZ hown (own_w hw 63 rfl) (own_w hw 64 rfl) (notFace_of_selects (args := #[]) (mvT hZ (own_w hw 66 rfl))) (own_w hw 66 rfl) (own_w hw 65 rfl) (own_w hw 46 rfl) (own_w hw 67 rfl) (by decide) f26 (con_ss l Z a0 hw b1 la24 _ n0 z24 G1 fm hG o24 c18 k18 cp18 ct18 u18 f26 f27 f28 f29 f30 Bk18 lb24 lk24 (2 : Int32) _ Eq24 Fc24 Fv24 V24 ne_b1_c18 ne_c18_b1 g_b1 g_c18 (by omega) lu18 rfl (by decide) ne_la24_c18 ne_lb24_c18 ne_la24_b1 ne_lb24_b1 ne_b1_la24) e24 pd30 [(.ref la24)] [] rfl rfl rfl (Nat.le_of_eq rfl) (by decide) (by decide) (by rw [hml]; rfl) (hb hby d6_21) (by decide) (by decide) rfl ?_
  intro v25 T25 L25 X25 q25
  obtain ⟨c25, k25, cp25, ct25, u25, rfl, M25, K25, hor25, g_c25, nsb25, E25q, F25a, F25b, F25c, V25, Bk25, lu25, hcp25, hct25, tu25⟩ := q25
  have ne_b1_c25 : b1 ≠ c25 := own_ne2 ne_b1_c18 f26.lt hor25
  have ne_c25_b1 := ne_b1_c25.symm
  have f34 := ((f22.keep K18).ext E24)
  have ne_r_c25 : r ≠ c25 := own_ne2 ne_r_c18 f34.lt hor25
  have f35 := ((f23.keep K18 (ninS ne_rb_b1 (ninS ne_rb_c7 nin0))).ext E24)
  have ne_rb_c25 : rb ≠ c25 := own_ne2 ne_rb_c18 f35.lt hor25
  obtain ⟨h25, e25⟩ : ∃ z, z = T25.heap := ⟨_, rfl⟩
  rw [← e25] at K25 E25q F25a F25b F25c V25
  have e25 := e25.symm
  have o25 : own_Old Z n0 h25 := o24.keep K25 (allS g_b1 (allS g_c18 all0))
  have kz25 := Nat.le_trans kz24 K25.1
  have z25 : n0 ≤ h25.size := Nat.le_trans z24 K25.1
  have KK25 : Keep h0 h25 [] := K24.trans K25 (allS (P := fun x => x ∈ [] ∨ h0.size ≤ x) (Or.inr sz_b1) (allS (P := fun x => x ∈ [] ∨ h0.size ≤ x) (Or.inr sz_c18) all0))
  have N25 := Fr.app N18 M25
  have sz_c25 : h0.size ≤ c25 := hn0 ▸ g_c25
  have v25q : ct25.toInt = ct18.toInt + 2 := hct25
  have b25q : ct25.toInt ≤ cp25.toInt ∧ cp25.toInt ≤ 70 := by rw [hcp25]; have e2 : (2 : Int32).toInt = 2 := rfl; unfold own_cap; split <;> omega
  have n25q := own_nat (x := ct25) (by omega)
  have x25q := own_nat (x := (2 : Int32)) (by decide)
  have t25q : u25.take ct25.toNatClampNeg = (([.int (114 : Int32), .int (101 : Int32), .int (102 : Int32), .int (117 : Int32), .int (115 : Int32), .int (101 : Int32), .int (100 : Int32), .int (32 : Int32), .int (108 : Int32), .int (105 : Int32), .int (110 : Int32), .int (101 : Int32), .int (32 : Int32)] ++ own_num xl.toInt.natAbs kk ng) ++ [.int (58 : Int32), .int (32 : Int32)]) := by rw [show ct25.toNatClampNeg = ct18.toNatClampNeg + (2 : Int32).toNatClampNeg by have e2 : (2 : Int32).toInt = 2 := rfl; omega, tu25, t18q]
  show own_WP _ _ _ _ _ _ _ (T25.setTop (mkF m 24 #[.val (.ref a)] [(.ref b1)]))
  refine own_aloadN (pc' := 25) X25 hx (hb hby d6_24) rfl rfl rfl ?_
  have f36 := (((((((hRe.ext E1).keep K2 (ninS ne_a_b1 nin0)).ext E6).keep K7 (ninS ne_a_b1 (ninS ne_a_c2 nin0))).keep K18 (ninS ne_a_b1 (ninS ne_a_c7 nin0))).ext E24).keep K25 (ninS ne_a_b1 (ninS ne_a_c18 nin0)))
  refine own_getF (pc' := 28) X25 hx hZ hown (host := "") (Or.inl (own_w hw 37 rfl)) Via.refl e25 f36 (hb hby d6_25) rfl ?_
  intro T37 X37 e37
  have f39 := (f34.keep K25)
  have f40 := (((((((rC.ext E1).keep K2 (ninS ne_r_b1 nin0)).ext E6).keep K7 (ninS ne_r_b1 (ninS ne_r_c2 nin0))).keep K18 (ninS ne_r_b1 (ninS ne_r_c7 nin0))).ext E24).keep K25 (ninS ne_r_b1 (ninS ne_r_c18 nin0)))
  have f41 := (((((((rV.ext E1).keep K2 (ninS ne_r_b1 nin0)).ext E6).keep K7 (ninS ne_r_b1 (ninS ne_r_c2 nin0))).keep K18 (ninS ne_r_b1 (ninS ne_r_c7 nin0))).ext E24).keep K25 (ninS ne_r_b1 (ninS ne_r_c18 nin0)))
  have f42 := (f35.keep K25 (ninS ne_rb_b1 (ninS ne_rb_c18 nin0)))
  refine own_callV (pc' := 31) (W := 0) (y := (⟨"java/lang/StringBuilder", "append", "(Ljava/lang/String;)Ljava/lang/StringBuilder;"⟩ : MethodName)) (z := (⟨"java/lang/StringBuilder", "append", "(Ljava/lang/String;)Ljava/lang/StringBuilder;"⟩ : MethodName)) X37 hx hZ hown (own_w hw 63 rfl) (own_w hw 64 rfl) (notFace_of_selects (args := #[]) (mvT hZ (own_w hw 66 rfl))) (own_w hw 66 rfl) (own_w hw 65 rfl) (own_w hw 46 rfl) (own_w hw 67 rfl) (by decide) E25q (con_ss l Z a0 hw b1 r _ n0 z25 G1 fm hG o25 c25 k25 cp25 ct25 u25 E25q F25a F25b F25c V25 Bk25 rb krb zr ws f39 f40 f41 f42 ne_b1_c25 ne_c25_b1 g_b1 g_c25 (by omega) lu25 hwsl (by omega) ne_r_c25 ne_rb_c25 ne_r_b1 ne_rb_b1 ne_b1_r) e37 pd30 [(.ref r)] [] rfl rfl rfl (Nat.le_of_eq rfl) (by decide) (by decide) (by rw [hml]; rfl) (hb hby d6_28) (by decide) (by decide) rfl ?_
  intro v38 T38 L38 X38 q38
  obtain ⟨c38, k38, cp38, ct38, u38, rfl, M38, K38, hor38, g_c38, nsb38, E38q, F38a, F38b, F38c, V38, Bk38, lu38, hcp38, hct38, tu38⟩ := q38
  obtain ⟨h38, e38⟩ : ∃ z, z = T38.heap := ⟨_, rfl⟩
  rw [← e38] at K38 E38q F38a F38b F38c V38
  have e38 := e38.symm
  have o38 : own_Old Z n0 h38 := o25.keep K38 (allS g_b1 (allS g_c25 all0))
  have kz38 := Nat.le_trans kz25 K38.1
  have z38 : n0 ≤ h38.size := Nat.le_trans z25 K38.1
  have KK38 : Keep h0 h38 [] := KK25.trans K38 (allS (P := fun x => x ∈ [] ∨ h0.size ≤ x) (Or.inr sz_b1) (allS (P := fun x => x ∈ [] ∨ h0.size ≤ x) (Or.inr sz_c25) all0))
  have N38 := Fr.app N25 M38
  have v38q : ct38.toInt = ct25.toInt + zr.toInt := hct38
  have b38q : ct38.toInt ≤ cp38.toInt ∧ cp38.toInt ≤ 80 := by rw [hcp38]; have e2 : (2 : Int32).toInt = 2 := rfl; unfold own_cap; split <;> omega
  have n38q := own_nat (x := ct38) (by omega)
  have x38q := own_nat (x := zr) (by omega)
  have t38q : u38.take ct38.toNatClampNeg = ((([.int (114 : Int32), .int (101 : Int32), .int (102 : Int32), .int (117 : Int32), .int (115 : Int32), .int (101 : Int32), .int (100 : Int32), .int (32 : Int32), .int (108 : Int32), .int (105 : Int32), .int (110 : Int32), .int (101 : Int32), .int (32 : Int32)] ++ own_num xl.toInt.natAbs kk ng) ++ [.int (58 : Int32), .int (32 : Int32)]) ++ ws) := by rw [show ct38.toNatClampNeg = ct25.toNatClampNeg + zr.toNatClampNeg by omega, tu38, t25q]
  show own_WP _ _ _ _ _ _ _ (T38.setTop (mkF m 31 #[.val (.ref a)] [(.ref b1)]))
  refine own_callV (pc' := 34) (W := 0) (y := (⟨"java/lang/StringBuilder", "toString", "()Ljava/lang/String;"⟩ : MethodName)) (z := (⟨"java/lang/StringBuilder", "toString", "()Ljava/lang/String;"⟩ : MethodName)) X38 hx hZ hown (own_w hw 137 rfl) (own_w hw 138 rfl) (notFace_of_selects (args := #[]) (mvT hZ (own_w hw 140 rfl))) (own_w hw 140 rfl) (own_w hw 139 rfl) (own_w hw 46 rfl) (own_w hw 141 rfl) (by decide) E38q (con_ts l Z a0 hw b1 _ n0 z38 G1 fm hG o38 c38 k38 cp38 ct38 u38 E38q F38a F38b F38c V38 Bk38 (by omega) lu38) e38 pd32 [] [] rfl rfl rfl (Nat.le_of_eq rfl) (by decide) (by decide) (by rw [hml]; rfl) (hb hby d6_31) (by decide) (by decide) rfl ?_
  intro v48 T48 L48 X48 q48
  obtain ⟨t48, c48, k48, u48, rfl, M48, K48, st48, s48, E48q, F48a, F48b, V48, hu48⟩ := q48
  have sz_t48 : h0.size ≤ t48 := Nat.le_trans KK38.1 st48
  have sz_c48 : h0.size ≤ c48 := Nat.le_trans KK38.1 s48
  obtain ⟨h48, e48⟩ : ∃ z, z = T48.heap := ⟨_, rfl⟩
  rw [← e48] at K48 E48q F48a F48b V48
  have e48 := e48.symm
  have kz48 := Nat.le_trans kz38 K48.1
  have KK48 : Keep h0 h48 [] := KK38.trans K48 all0
  have N48 := Fr.app N38 M48
  show own_WP _ _ _ _ _ _ _ (T48.setTop (mkF m 34 #[.val (.ref a)] [(.ref t48)]))
  refine own_retA X48 hx (own_FW2 hZ I24 hS (by rw [e48]; exact kz48)) hlk rfl hret rfl rfl (hb hby d6_34) (by decide) (by decide) ?_
  rw [e48]
  refine ⟨t48, c48, k48, ct38, u48, kk, ng, rfl, (hn0 ▸ N48), KK48, sz_t48, sz_c48, E48q, F48a, F48b, V48, hkk, hngx, by omega, ?_⟩
  rw [hu48, t38q]
  simp only [List.append_assoc]
theorem own_getat {us pre post : List Value} {x : Value} (hus : us = pre ++ x :: post) {i z1 : Int32} {d : Value} (hi : i.toInt = (pre.length : Int)) (hz : z1.toInt = (us.length : Int)) : (¬ i < 0 ∧ i < z1) ∧ us.getD i.toNatClampNeg d = x := by
  have e : us.length = pre.length + (post.length + 1) := by rw [hus]; simp
  have q := own_nat (x := i) (by omega)
  refine ⟨⟨own_nn (by omega), by rw [Int32.lt_iff_toInt_lt]; omega⟩, ?_⟩
  have e2 : i.toNatClampNeg = pre.length := by omega
  rw [e2, hus]
  simp [List.getD]
theorem own_numat {A kk : Nat} {ng : Int32} (hng : ng = 0 ∨ ng = 1) {K : Nat} (hK : K < kk) : ∃ p q, own_num A kk ng = p ++ .int (own_dig A K) :: q ∧ (p.length : Int) = ng.toInt + kk - 1 - K := by
  have e : (List.range kk).map (fun i => Value.int (own_dig A (kk - 1 - i))) = ((List.range kk).map (fun i => Value.int (own_dig A (kk - 1 - i)))).take (kk - 1 - K) ++ .int (own_dig A K) :: ((List.range kk).map (fun i => Value.int (own_dig A (kk - 1 - i)))).drop (kk - 1 - K + 1) := by
    have h1 : kk - 1 - K < ((List.range kk).map (fun i => Value.int (own_dig A (kk - 1 - i)))).length := by simp; omega
    have h2 : ((List.range kk).map (fun i => Value.int (own_dig A (kk - 1 - i))))[kk - 1 - K] = .int (own_dig A K) := by
      simp
      congr 1; omega
    rw [← h2, List.getElem_cons_drop, List.take_append_drop]
  refine ⟨(if ng = 1 then [.int (45 : Int32)] else []) ++ ((List.range kk).map (fun i => Value.int (own_dig A (kk - 1 - i)))).take (kk - 1 - K), _, by rw [own_num, List.append_assoc, ← e], ?_⟩
  rcases hng with rfl | rfl
  · rw [if_neg (by decide)]
    have e0 : (0 : Int32).toInt = 0 := rfl
    simp; omega
  · rw [if_pos rfl]
    have e0 : (1 : Int32).toInt = 1 := rfl
    simp; omega
/-- the digit K of the number, in the text behind a prefix of 13 (or n) bytes -/
theorem own_dgat {A kk : Nat} {ng : Int32} {us pf rest : List Value} (hng : ng = 0 ∨ ng = 1) (hus : us = pf ++ (own_num A kk ng ++ rest)) {K : Nat} (hK : K < kk) {i z1 : Int32} {d : Value} (hi : i.toInt = (pf.length : Int) + ng.toInt + kk - 1 - K) (hz : z1.toInt = (us.length : Int)) : (¬ i < 0 ∧ i < z1) ∧ us.getD i.toNatClampNeg d = .int (own_dig A K) := by
  obtain ⟨p, q, e1, e2⟩ := own_numat (A := A) hng hK
  exact own_getat (pre := pf ++ p) (post := q ++ rest) (by rw [hus, e1]; simp) (by rw [List.length_append]; omega) hz
theorem own_chdig (A K : Nat) : own_ch (own_dig A K) = own_dig A K := by
  have h : A / 10 ^ K % 10 < 10 := Nat.mod_lt _ (by decide)
  unfold own_dig
  generalize A / 10 ^ K % 10 = n at h
  have : n = 0 ∨ n = 1 ∨ n = 2 ∨ n = 3 ∨ n = 4 ∨ n = 5 ∨ n = 6 ∨ n = 7 ∨ n = 8 ∨ n = 9 := by omega
  rcases this with rfl | rfl | rfl | rfl | rfl | rfl | rfl | rfl | rfl | rfl <;> rfl
theorem own_digI (A K : Nat) : (own_dig A K).toInt = 48 + ((A / 10 ^ K % 10 : Nat) : Int) := by
  have h : A / 10 ^ K % 10 < 10 := Nat.mod_lt _ (by decide)
  unfold own_dig
  generalize A / 10 ^ K % 10 = n at h
  have : n = 0 ∨ n = 1 ∨ n = 2 ∨ n = 3 ∨ n = 4 ∨ n = 5 ∨ n = 6 ∨ n = 7 ∨ n = 8 ∨ n = 9 := by omega
  rcases this with rfl | rfl | rfl | rfl | rfl | rfl | rfl | rfl | rfl | rfl <;> rfl
/-- one turn of countDigits: the limit 10^j has been looked at -/
def own_cd (A j : Nat) (c : Int32) : Prop := ∃ t : Nat, c.toInt = (t : Int) ∧ 1 ≤ t ∧ t ≤ j + 1 ∧ (t ≤ j → A < 10 ^ t) ∧ (t = 1 ∨ 10 ^ (t - 1) ≤ A)
theorem own_cd0 (A : Nat) : own_cd A 0 1 := ⟨1, rfl, by omega, by omega, by omega, Or.inl rfl⟩
theorem own_cdN {A j : Nat} {c : Int32} (h : own_cd A j c) (hA : A < 10 ^ (j + 1)) : own_cd A (j + 1) c := by
  obtain ⟨t, h1, h2, h3, h4, h5⟩ := h
  refine ⟨t, h1, h2, by omega, fun q => ?_, h5⟩
  by_cases e : t = j + 1
  · subst e; exact hA
  · exact h4 (by omega)
theorem own_cdY {A j : Nat} {c : Int32} (hc : c.toInt = (j : Int) + 2) (hA : 10 ^ (j + 1) ≤ A) : own_cd A (j + 1) c := ⟨j + 2, by omega, by omega, by omega, by omega, Or.inr (by simpa using hA)⟩
theorem own_cdE {A : Nat} {c : Int32} (h : own_cd A 18 c) (hA : A ≤ 9223372036854775808) {kk : Nat} (hkk : own_dgs A kk) : c.toInt = (kk : Int) := by
  obtain ⟨t, h1, h2, h3, h4, h5⟩ := h
  have e : own_dgs A t := ⟨h2, by
    by_cases q : t ≤ 18
    · exact h4 q
    · have e : t = 19 := by omega
      subst e; exact Nat.lt_of_le_of_lt hA (by decide), h5⟩
  rw [h1, own_dgs_uniq hkk e]
theorem own_chby0 : ∀ n, n < 256 → own_ch (own_by (Int32.ofNat n)) = Int32.ofNat n := by decide +kernel
theorem own_chby {c : Int32} (h : 0 ≤ c.toInt ∧ c.toInt ≤ 255) : own_ch (own_by c) = c := by
  have q := own_nat (x := c) h.1
  have e : c = Int32.ofNat c.toNatClampNeg := by
    apply Int32.toInt_inj.mp
    rw [Int32.toInt_ofNat_of_lt (by omega)]
    omega
  rw [e]
  exact own_chby0 _ (by omega)
theorem own_mask (x k : Int32) (hk : 0 ≤ k.toInt) : 0 ≤ (x &&& k).toInt ∧ (x &&& k).toInt ≤ k.toInt := by
  have e : (x &&& k).toInt = (x.toBitVec &&& k.toBitVec).toInt := rfl
  have ek : k.toInt = k.toBitVec.toInt := rfl
  have h1 := BitVec.toInt_eq_toNat_cond (x.toBitVec &&& k.toBitVec)
  have h2 := BitVec.toInt_eq_toNat_cond k.toBitVec
  have h3 : (x.toBitVec &&& k.toBitVec).toNat ≤ k.toBitVec.toNat := by rw [BitVec.toNat_and]; exact Nat.and_le_right
  have h4 := k.toBitVec.isLt
  rw [ek] at hk
  rw [e, ek]
  have c1 : 2 * k.toBitVec.toNat < 2 ^ 32 := by
    rcases Nat.lt_or_ge (2 * k.toBitVec.toNat) (2 ^ 32) with q | q
    · exact q
    · rw [if_neg (by omega)] at h2; omega
  rw [if_pos c1] at h2
  rw [if_pos (by omega)] at h1
  rw [h1, h2]
  omega
theorem own_m255 (x : Int32) : 0 ≤ (x &&& 255).toInt ∧ (x &&& 255).toInt ≤ 255 := own_mask x 255 (by decide)
theorem own_r3 (x : Int32) : (x &&& 2147483647) % 3 = 0 ∨ (x &&& 2147483647) % 3 = 1 ∨ (x &&& 2147483647) % 3 = 2 := by
  have h := own_mask x 2147483647 (by decide)
  have q := c_irem (x &&& 2147483647) 3 3 rfl
  have r := q.1 h.1
  rcases (by omega : ((x &&& 2147483647) % 3).toInt = 0 ∨ ((x &&& 2147483647) % 3).toInt = 1 ∨ ((x &&& 2147483647) % 3).toInt = 2) with e | e | e
  · exact Or.inl (Int32.toInt_inj.mp e)
  · exact Or.inr (Or.inl (Int32.toInt_inj.mp e))
  · exact Or.inr (Or.inr (Int32.toInt_inj.mp e))
theorem own_dgE {m pw : Int64} {v : Int32} {A K : Nat} (hm : m.toInt = -(A : Int)) (hpw : pw.toInt = ((10 ^ K : Nat) : Int)) (hv : v = ((m / pw) % (10 : Int64)).toInt32) : ((48 : Int32) - v).toUInt32.toUInt16.toUInt32.toInt32 = own_dig A K := by
  have hp : 0 < 10 ^ K := Nat.pow_pos (by decide)
  have hne : pw ≠ -1 := fun e => by rw [e] at hpw; have : (-1 : Int64).toInt = -1 := rfl; omega
  have q := c_ldiv m pw _ hpw hne
  have hq : (m / pw).toInt = -((A / 10 ^ K : Nat) : Int) := by
    rcases Nat.eq_zero_or_pos A with rfl | hA
    · rw [q.1 (by omega), hm]; simp
    · rw [q.2 (by omega), hm, Int.neg_neg, Int.natCast_ediv]
  have r := c_lrem (m / pw) 10 10 rfl
  rw [lrem_mod] at r
  have hr : ((m / pw) % (10 : Int64)).toInt = -((A / 10 ^ K % 10 : Nat) : Int) := by
    generalize A / 10 ^ K = B at hq
    rcases Nat.eq_zero_or_pos B with rfl | hB
    · rw [r.1 (by omega), hq]; rfl
    · rw [r.2 (by omega), hq]; omega
  have hl := Nat.mod_lt (A / 10 ^ K) (by decide : 0 < 10)
  have c1 := c_l2i ((m / pw) % (10 : Int64))
  have c2 := rng32 ((m / pw) % (10 : Int64)).toInt32
  rw [← hv] at c1 c2
  have c3 := own_sub (z := (48 : Int32) - v) rfl (by decide) (by omega)
  have c4 := c_i2c ((48 : Int32) - v)
  have e48 : (48 : Int32).toInt = 48 := rfl
  apply Int32.toInt_inj.mp
  rw [own_digI]
  omega
theorem own_dgP {A kk K : Nat} {ng la kq cq z1 : Int32} {us pf rest : List Value} (hng : ng = 0 ∨ ng = 1) (hus : us = pf ++ (own_num A kk ng ++ rest)) (hla : la.toInt = (pf.length : Int) + kk + ng.toInt - 1) (hb : -1000 ≤ la.toInt ∧ la.toInt ≤ 1000) (hkq : kq.toInt = (K : Int)) (hK : K ≤ 18) (hcq : cq.toInt = (kk : Int)) (hz : z1.toInt = (us.length : Int)) (q : kq < cq) : (¬ (la - kq) < 0 ∧ (la - kq) < z1) ∧ us.getD (la - kq).toNatClampNeg (.int (0 : Int32)) = .int (own_dig A K) := by
  rw [Int32.lt_iff_toInt_lt] at q
  have e := own_sub (z := la - kq) rfl (by omega) (by omega)
  exact own_dgat hng hus (by omega) (by omega) hz
theorem own_len13 {v rr cn : Int32} (hv : 0 ≤ v.toInt ∧ v.toInt ≤ 100) (hr : 0 ≤ rr.toInt ∧ rr.toInt ≤ 10) (h : cn.toInt = 15 + v.toInt + rr.toInt) : cn = (((13 : Int32) + v) + (2 : Int32)) + rr := by
  apply Int32.toInt_inj.mp
  have e13 : (13 : Int32).toInt = 13 := rfl
  have e2 : (2 : Int32).toInt = 2 := rfl
  have q1 := own_add (z := (13 : Int32) + v) rfl (by omega) (by omega)
  have q2 := own_add (z := ((13 : Int32) + v) + (2 : Int32)) rfl (by omega) (by omega)
  have q3 := own_add (z := (((13 : Int32) + v) + (2 : Int32)) + rr) rfl (by omega) (by omega)
  omega


def own_ConR (l : Launch) (Z : State) (y : MethodName) (bytes : ByteArray) (maxL : Nat) (ret : Option FieldType) (rm : Room) (as' : Array Value) (h0 : Heap) (Q : Option Value → Heap → List Loc → Prop) : Prop :=
  ∀ ws, MetFree l y (head1 (Jvm.Cond.code y bytes maxL ret :: ws) rm) (fun a U => a = as' ∧ Z.Warmed39 U.vm ∧ U.heap = h0 ∧ IB Z U.vm []) (fun _ _ _ _ _ => True) (fun _ U o U' => ∃ v L, o = .returned v ∧ Q v U'.heap L ∧ ReturnedEndW U o U' L rm.cells rm.slots)
theorem own_ConR_of {l : Launch} {Z : State} {y : MethodName} {bytes : ByteArray} {maxL : Nat} {ret : Option FieldType} {rm : Room} {as' : Array Value} {h0 : Heap} {Q : Option Value → Heap → List Loc → Prop} (hp : plainFor y = true)
    (hb : ∀ (p : Program) (e : Env) (s : State) (vm0 : Vm) (m : MethodId) (below : List Frame) (meth : Method) (c : Code) (s₁ : State), Stand p l e rm (s.setVm vm0) m as' below meth c s₁ [] 0 0 → p.tables.exec = Jvm.exec → c.code = bytes → c.maxLocals = maxL → meth.sig.returnType = ret → meth.locks = false → meth.name = y.name → vm0.findClass y.cls = some m.cls → Z.Warmed39 vm0 → s₁.heap = h0 → s.heap = h0 → IB Z vm0 [] → s.Since vm0 h0.size →
      own_WP p e below (ReturnedEndW s) Q rm.cells rm.slots (s₁.setTop (entryFrame m as' maxL))) : own_ConR l Z y bytes maxL ret rm as' h0 Q := by
  intro ws
  refine MetFree.of_bodySF hp hisR ?_
  intro p e s m args below meth c s₁ Bd hml0 hP hK
  obtain ⟨rfl, hZ, hh, hI⟩ := hP
  have X := Stand.of_body Bd
  exact hb p e s s.vm m below meth c s₁ X Bd.exec Bd.bytes hml0 Bd.returns Bd.notSynchronized (name_of_methodNamed Bd.named Bd.method).1 (findClass_of_methodNamed Bd.named) hZ (by rw [← hh, Bd.state]; rfl) hh hI ((State.WarmedH.refl s).since _)

theorem d29_0 : decode method_4_code 0 = .ok (.iconst 1, 1) := by decide +kernel
theorem d29_1 : decode method_4_code 1 = .ok (.istore_n 2, 1) := by decide +kernel
theorem d29_2 : decode method_4_code 2 = .ok (.lload_n 0, 1) := by decide +kernel
theorem d29_3 : decode method_4_code 3 = .ok (.ldc2_w 84, 3) := by decide +kernel
theorem d29_6 : decode method_4_code 6 = .ok (.lcmp, 1) := by decide +kernel
theorem d29_7 : decode method_4_code 7 = .ok (.ifCond .gt 5, 3) := by decide +kernel
theorem d29_10 : decode method_4_code 10 = .ok (.iconst 2, 1) := by decide +kernel
theorem d29_11 : decode method_4_code 11 = .ok (.istore_n 2, 1) := by decide +kernel
theorem d29_12 : decode method_4_code 12 = .ok (.lload_n 0, 1) := by decide +kernel
theorem d29_13 : decode method_4_code 13 = .ok (.ldc2_w 86, 3) := by decide +kernel
theorem d29_16 : decode method_4_code 16 = .ok (.lcmp, 1) := by decide +kernel
theorem d29_17 : decode method_4_code 17 = .ok (.ifCond .gt 5, 3) := by decide +kernel
theorem d29_20 : decode method_4_code 20 = .ok (.iconst 3, 1) := by decide +kernel
theorem d29_21 : decode method_4_code 21 = .ok (.istore_n 2, 1) := by decide +kernel
theorem d29_22 : decode method_4_code 22 = .ok (.lload_n 0, 1) := by decide +kernel
theorem d29_23 : decode method_4_code 23 = .ok (.ldc2_w 88, 3) := by decide +kernel
theorem d29_26 : decode method_4_code 26 = .ok (.lcmp, 1) := by decide +kernel
theorem d29_27 : decode method_4_code 27 = .ok (.ifCond .gt 5, 3) := by decide +kernel
theorem d29_30 : decode method_4_code 30 = .ok (.iconst 4, 1) := by decide +kernel
theorem d29_31 : decode method_4_code 31 = .ok (.istore_n 2, 1) := by decide +kernel
theorem d29_32 : decode method_4_code 32 = .ok (.lload_n 0, 1) := by decide +kernel
theorem d29_33 : decode method_4_code 33 = .ok (.ldc2_w 90, 3) := by decide +kernel
theorem d29_36 : decode method_4_code 36 = .ok (.lcmp, 1) := by decide +kernel
theorem d29_37 : decode method_4_code 37 = .ok (.ifCond .gt 5, 3) := by decide +kernel
theorem d29_40 : decode method_4_code 40 = .ok (.iconst 5, 1) := by decide +kernel
theorem d29_41 : decode method_4_code 41 = .ok (.istore_n 2, 1) := by decide +kernel
theorem d29_42 : decode method_4_code 42 = .ok (.lload_n 0, 1) := by decide +kernel
theorem d29_43 : decode method_4_code 43 = .ok (.ldc2_w 92, 3) := by decide +kernel
theorem d29_46 : decode method_4_code 46 = .ok (.lcmp, 1) := by decide +kernel
theorem d29_47 : decode method_4_code 47 = .ok (.ifCond .gt 6, 3) := by decide +kernel
theorem d29_50 : decode method_4_code 50 = .ok (.bipush 6, 2) := by decide +kernel
theorem d29_52 : decode method_4_code 52 = .ok (.istore_n 2, 1) := by decide +kernel
theorem d29_53 : decode method_4_code 53 = .ok (.lload_n 0, 1) := by decide +kernel
theorem d29_54 : decode method_4_code 54 = .ok (.ldc2_w 94, 3) := by decide +kernel
theorem d29_57 : decode method_4_code 57 = .ok (.lcmp, 1) := by decide +kernel
theorem d29_58 : decode method_4_code 58 = .ok (.ifCond .gt 6, 3) := by decide +kernel
theorem d29_61 : decode method_4_code 61 = .ok (.bipush 7, 2) := by decide +kernel
theorem d29_63 : decode method_4_code 63 = .ok (.istore_n 2, 1) := by decide +kernel
theorem d29_64 : decode method_4_code 64 = .ok (.lload_n 0, 1) := by decide +kernel
theorem d29_65 : decode method_4_code 65 = .ok (.ldc2_w 96, 3) := by decide +kernel
theorem d29_68 : decode method_4_code 68 = .ok (.lcmp, 1) := by decide +kernel
theorem d29_69 : decode method_4_code 69 = .ok (.ifCond .gt 6, 3) := by decide +kernel
theorem d29_72 : decode method_4_code 72 = .ok (.bipush 8, 2) := by decide +kernel
theorem d29_74 : decode method_4_code 74 = .ok (.istore_n 2, 1) := by decide +kernel
theorem d29_75 : decode method_4_code 75 = .ok (.lload_n 0, 1) := by decide +kernel
theorem d29_76 : decode method_4_code 76 = .ok (.ldc2_w 98, 3) := by decide +kernel
theorem d29_79 : decode method_4_code 79 = .ok (.lcmp, 1) := by decide +kernel
theorem d29_80 : decode method_4_code 80 = .ok (.ifCond .gt 6, 3) := by decide +kernel
theorem d29_83 : decode method_4_code 83 = .ok (.bipush 9, 2) := by decide +kernel
theorem d29_85 : decode method_4_code 85 = .ok (.istore_n 2, 1) := by decide +kernel
theorem d29_86 : decode method_4_code 86 = .ok (.lload_n 0, 1) := by decide +kernel
theorem d29_87 : decode method_4_code 87 = .ok (.ldc2_w 100, 3) := by decide +kernel
theorem d29_90 : decode method_4_code 90 = .ok (.lcmp, 1) := by decide +kernel
theorem d29_91 : decode method_4_code 91 = .ok (.ifCond .gt 6, 3) := by decide +kernel
theorem d29_94 : decode method_4_code 94 = .ok (.bipush 10, 2) := by decide +kernel
theorem d29_96 : decode method_4_code 96 = .ok (.istore_n 2, 1) := by decide +kernel
theorem d29_97 : decode method_4_code 97 = .ok (.lload_n 0, 1) := by decide +kernel
theorem d29_98 : decode method_4_code 98 = .ok (.ldc2_w 102, 3) := by decide +kernel
theorem d29_101 : decode method_4_code 101 = .ok (.lcmp, 1) := by decide +kernel
theorem d29_102 : decode method_4_code 102 = .ok (.ifCond .gt 6, 3) := by decide +kernel
theorem d29_105 : decode method_4_code 105 = .ok (.bipush 11, 2) := by decide +kernel
theorem d29_107 : decode method_4_code 107 = .ok (.istore_n 2, 1) := by decide +kernel
theorem d29_108 : decode method_4_code 108 = .ok (.lload_n 0, 1) := by decide +kernel
theorem d29_109 : decode method_4_code 109 = .ok (.ldc2_w 104, 3) := by decide +kernel
theorem d29_112 : decode method_4_code 112 = .ok (.lcmp, 1) := by decide +kernel
theorem d29_113 : decode method_4_code 113 = .ok (.ifCond .gt 6, 3) := by decide +kernel
theorem d29_116 : decode method_4_code 116 = .ok (.bipush 12, 2) := by decide +kernel
theorem d29_118 : decode method_4_code 118 = .ok (.istore_n 2, 1) := by decide +kernel
theorem d29_119 : decode method_4_code 119 = .ok (.lload_n 0, 1) := by decide +kernel
theorem d29_120 : decode method_4_code 120 = .ok (.ldc2_w 106, 3) := by decide +kernel
theorem d29_123 : decode method_4_code 123 = .ok (.lcmp, 1) := by decide +kernel
theorem d29_124 : decode method_4_code 124 = .ok (.ifCond .gt 6, 3) := by decide +kernel
theorem d29_127 : decode method_4_code 127 = .ok (.bipush 13, 2) := by decide +kernel
theorem d29_129 : decode method_4_code 129 = .ok (.istore_n 2, 1) := by decide +kernel
theorem d29_130 : decode method_4_code 130 = .ok (.lload_n 0, 1) := by decide +kernel
theorem d29_131 : decode method_4_code 131 = .ok (.ldc2_w 108, 3) := by decide +kernel
theorem d29_134 : decode method_4_code 134 = .ok (.lcmp, 1) := by decide +kernel
theorem d29_135 : decode method_4_code 135 = .ok (.ifCond .gt 6, 3) := by decide +kernel
theorem d29_138 : decode method_4_code 138 = .ok (.bipush 14, 2) := by decide +kernel
theorem d29_140 : decode method_4_code 140 = .ok (.istore_n 2, 1) := by decide +kernel
theorem d29_141 : decode method_4_code 141 = .ok (.lload_n 0, 1) := by decide +kernel
theorem d29_142 : decode method_4_code 142 = .ok (.ldc2_w 110, 3) := by decide +kernel
theorem d29_145 : decode method_4_code 145 = .ok (.lcmp, 1) := by decide +kernel
theorem d29_146 : decode method_4_code 146 = .ok (.ifCond .gt 6, 3) := by decide +kernel
theorem d29_149 : decode method_4_code 149 = .ok (.bipush 15, 2) := by decide +kernel
theorem d29_151 : decode method_4_code 151 = .ok (.istore_n 2, 1) := by decide +kernel
theorem d29_152 : decode method_4_code 152 = .ok (.lload_n 0, 1) := by decide +kernel
theorem d29_153 : decode method_4_code 153 = .ok (.ldc2_w 112, 3) := by decide +kernel
theorem d29_156 : decode method_4_code 156 = .ok (.lcmp, 1) := by decide +kernel
theorem d29_157 : decode method_4_code 157 = .ok (.ifCond .gt 6, 3) := by decide +kernel
theorem d29_160 : decode method_4_code 160 = .ok (.bipush 16, 2) := by decide +kernel
theorem d29_162 : decode method_4_code 162 = .ok (.istore_n 2, 1) := by decide +kernel
theorem d29_163 : decode method_4_code 163 = .ok (.lload_n 0, 1) := by decide +kernel
theorem d29_164 : decode method_4_code 164 = .ok (.ldc2_w 114, 3) := by decide +kernel
theorem d29_167 : decode method_4_code 167 = .ok (.lcmp, 1) := by decide +kernel
theorem d29_168 : decode method_4_code 168 = .ok (.ifCond .gt 6, 3) := by decide +kernel
theorem d29_171 : decode method_4_code 171 = .ok (.bipush 17, 2) := by decide +kernel
theorem d29_173 : decode method_4_code 173 = .ok (.istore_n 2, 1) := by decide +kernel
theorem d29_174 : decode method_4_code 174 = .ok (.lload_n 0, 1) := by decide +kernel
theorem d29_175 : decode method_4_code 175 = .ok (.ldc2_w 116, 3) := by decide +kernel
theorem d29_178 : decode method_4_code 178 = .ok (.lcmp, 1) := by decide +kernel
theorem d29_179 : decode method_4_code 179 = .ok (.ifCond .gt 6, 3) := by decide +kernel
theorem d29_182 : decode method_4_code 182 = .ok (.bipush 18, 2) := by decide +kernel
theorem d29_184 : decode method_4_code 184 = .ok (.istore_n 2, 1) := by decide +kernel
theorem d29_185 : decode method_4_code 185 = .ok (.lload_n 0, 1) := by decide +kernel
theorem d29_186 : decode method_4_code 186 = .ok (.ldc2_w 118, 3) := by decide +kernel
theorem d29_189 : decode method_4_code 189 = .ok (.lcmp, 1) := by decide +kernel
theorem d29_190 : decode method_4_code 190 = .ok (.ifCond .gt 6, 3) := by decide +kernel
theorem d29_193 : decode method_4_code 193 = .ok (.bipush 19, 2) := by decide +kernel
theorem d29_195 : decode method_4_code 195 = .ok (.istore_n 2, 1) := by decide +kernel
theorem d29_196 : decode method_4_code 196 = .ok (.iload_n 2, 1) := by decide +kernel
theorem d29_197 : decode method_4_code 197 = .ok (.ireturn, 1) := by decide +kernel
theorem pn_29 : plainFor (⟨"com/example/ossify/ossify/RefusalDescribePinLaw", "countDigits", "(J)I"⟩ : MethodName) = true := plainFor_of_name (by first | (simp [plainName, overriddenIn]; done) | decide +kernel)
theorem ef_con_cdg (m : MethodId) (m1 : Int64) : entryFrame m #[(.long m1)] 3 = mkF m 0 #[.val (.long m1), .second, .unset] [] := by first | (simp [entryFrame, mkF, argsToLocals, Value.category]; done) | rfl
set_option maxRecDepth 65536 in
set_option maxHeartbeats 4000000 in
theorem con_cdg (l : Launch) (Z : State) (a0 : Array Value) (hw : ∀ d ∈ tables_1, d.before a0 Z = true) (m1 : Int64) (h0 : Heap) (A kk : Nat) (hm : m1.toInt = -(A : Int)) (hkk : own_dgs A kk) :
    own_Con l Z (⟨"com/example/ossify/ossify/RefusalDescribePinLaw", "countDigits", "(J)I"⟩ : MethodName) method_4_code 3 (some .int) ({ frames := 0, cells := 0, slots := 0, locals := 0 } : Room) #[(.long m1)] h0 (fun v h L => ∃ z : Int32, v = some (.int z) ∧ (z.toInt = (kk : Int)) ∧ L = [] ∧ h = h0) := by
  refine own_Con_of pn_29 ?_
  intro p e s m below meth c s₁ X0 hx hby hml hret hlk hnm hown hZ e0
  have hown : s.vm.findClass "com/example/ossify/ossify/RefusalDescribePinLaw" = some m.cls := hown
  have hml : c.maxLocals = 3 := hml
  show own_WP _ _ _ _ _ _ _ (s₁.setTop (entryFrame m #[(.long m1)] 3))
  rw [ef_con_cdg m m1]
  refine own_iconst (pc' := 1) X0 hx (1 : Int32) (hb hby d29_0) rfl rfl ?_
  refine own_istoreN (pc' := 2) (l' := #[.val (.long m1), .second, .val (.int (1 : Int32))]) X0 hx (hb hby d29_1) rfl rfl rfl ?_
  refine own_join (fun cd1 : Int32 => own_cd A 1 cd1) (fun cd1 => s₁.setTop (mkF m 12 #[.val (.long m1), .second, .val (.int cd1)] [])) (fun J12 => ?_) (fun cd1 hcd1 => ?_)
  · skip
    refine own_lloadN (pc' := 3) X0 hx (hb hby d29_2) rfl rfl ?_
    refine own_ldc2Long (pc' := 6) X0 hx hZ hown (own_w hw 180 rfl) (hb hby d29_3) rfl ?_
    refine own_lcmp (pc' := 7) X0 hx (hb hby d29_6) rfl ?_
    refine own_ifl_gt (pt := 12) (pf := 10) X0 hx (hb hby d29_7) rfl (by decide) rfl (fun hc7 => ?_) (fun hc7 => ?_)
    · skip
      exact J12 (1 : Int32) (own_cdN (own_cd0 A) (by have q := hc7; rw [Int64.lt_iff_toInt_lt] at q; have q : (-10 : Int) < m1.toInt := q; show A < 10; omega))
    · skip
      refine own_iconst (pc' := 11) X0 hx (2 : Int32) (hb hby d29_10) rfl rfl ?_
      refine own_istoreN (pc' := 12) (l' := #[.val (.long m1), .second, .val (.int (2 : Int32))]) X0 hx (hb hby d29_11) rfl rfl rfl ?_
      exact J12 (2 : Int32) (own_cdY (j := 0) rfl (by have q := hc7; rw [Int64.lt_iff_toInt_lt] at q; have q : ¬ (-10 : Int) < m1.toInt := q; show 10 ≤ A; omega))
  · skip
    show own_WP _ _ _ _ _ _ _ (s₁.setTop (mkF m 12 #[.val (.long m1), .second, .val (.int cd1)] []))
    refine own_join (fun cd2 : Int32 => own_cd A 2 cd2) (fun cd2 => s₁.setTop (mkF m 22 #[.val (.long m1), .second, .val (.int cd2)] [])) (fun J22 => ?_) (fun cd2 hcd2 => ?_)
    · skip
      refine own_lloadN (pc' := 13) X0 hx (hb hby d29_12) rfl rfl ?_
      refine own_ldc2Long (pc' := 16) X0 hx hZ hown (own_w hw 181 rfl) (hb hby d29_13) rfl ?_
      refine own_lcmp (pc' := 17) X0 hx (hb hby d29_16) rfl ?_
      refine own_ifl_gt (pt := 22) (pf := 20) X0 hx (hb hby d29_17) rfl (by decide) rfl (fun hc17 => ?_) (fun hc17 => ?_)
      · skip
        exact J22 cd1 (own_cdN hcd1 (by have q := hc17; rw [Int64.lt_iff_toInt_lt] at q; have q : (-100 : Int) < m1.toInt := q; show A < 100; omega))
      · skip
        refine own_iconst (pc' := 21) X0 hx (3 : Int32) (hb hby d29_20) rfl rfl ?_
        refine own_istoreN (pc' := 22) (l' := #[.val (.long m1), .second, .val (.int (3 : Int32))]) X0 hx (hb hby d29_21) rfl rfl rfl ?_
        exact J22 (3 : Int32) (own_cdY (j := 1) rfl (by have q := hc17; rw [Int64.lt_iff_toInt_lt] at q; have q : ¬ (-100 : Int) < m1.toInt := q; show 100 ≤ A; omega))
    · skip
      show own_WP _ _ _ _ _ _ _ (s₁.setTop (mkF m 22 #[.val (.long m1), .second, .val (.int cd2)] []))
      refine own_join (fun cd3 : Int32 => own_cd A 3 cd3) (fun cd3 => s₁.setTop (mkF m 32 #[.val (.long m1), .second, .val (.int cd3)] [])) (fun J32 => ?_) (fun cd3 hcd3 => ?_)
      · skip
        refine own_lloadN (pc' := 23) X0 hx (hb hby d29_22) rfl rfl ?_
        refine own_ldc2Long (pc' := 26) X0 hx hZ hown (own_w hw 182 rfl) (hb hby d29_23) rfl ?_
        refine own_lcmp (pc' := 27) X0 hx (hb hby d29_26) rfl ?_
        refine own_ifl_gt (pt := 32) (pf := 30) X0 hx (hb hby d29_27) rfl (by decide) rfl (fun hc27 => ?_) (fun hc27 => ?_)
        · skip
          exact J32 cd2 (own_cdN hcd2 (by have q := hc27; rw [Int64.lt_iff_toInt_lt] at q; have q : (-1000 : Int) < m1.toInt := q; show A < 1000; omega))
        · skip
          refine own_iconst (pc' := 31) X0 hx (4 : Int32) (hb hby d29_30) rfl rfl ?_
          refine own_istoreN (pc' := 32) (l' := #[.val (.long m1), .second, .val (.int (4 : Int32))]) X0 hx (hb hby d29_31) rfl rfl rfl ?_
          exact J32 (4 : Int32) (own_cdY (j := 2) rfl (by have q := hc27; rw [Int64.lt_iff_toInt_lt] at q; have q : ¬ (-1000 : Int) < m1.toInt := q; show 1000 ≤ A; omega))
      · skip
        show own_WP _ _ _ _ _ _ _ (s₁.setTop (mkF m 32 #[.val (.long m1), .second, .val (.int cd3)] []))
        refine own_join (fun cd4 : Int32 => own_cd A 4 cd4) (fun cd4 => s₁.setTop (mkF m 42 #[.val (.long m1), .second, .val (.int cd4)] [])) (fun J42 => ?_) (fun cd4 hcd4 => ?_)
        · skip
          refine own_lloadN (pc' := 33) X0 hx (hb hby d29_32) rfl rfl ?_
          refine own_ldc2Long (pc' := 36) X0 hx hZ hown (own_w hw 183 rfl) (hb hby d29_33) rfl ?_
          refine own_lcmp (pc' := 37) X0 hx (hb hby d29_36) rfl ?_
          refine own_ifl_gt (pt := 42) (pf := 40) X0 hx (hb hby d29_37) rfl (by decide) rfl (fun hc37 => ?_) (fun hc37 => ?_)
          · skip
            exact J42 cd3 (own_cdN hcd3 (by have q := hc37; rw [Int64.lt_iff_toInt_lt] at q; have q : (-10000 : Int) < m1.toInt := q; show A < 10000; omega))
          · skip
            refine own_iconst (pc' := 41) X0 hx (5 : Int32) (hb hby d29_40) rfl rfl ?_
            refine own_istoreN (pc' := 42) (l' := #[.val (.long m1), .second, .val (.int (5 : Int32))]) X0 hx (hb hby d29_41) rfl rfl rfl ?_
            exact J42 (5 : Int32) (own_cdY (j := 3) rfl (by have q := hc37; rw [Int64.lt_iff_toInt_lt] at q; have q : ¬ (-10000 : Int) < m1.toInt := q; show 10000 ≤ A; omega))
        · skip
          show own_WP _ _ _ _ _ _ _ (s₁.setTop (mkF m 42 #[.val (.long m1), .second, .val (.int cd4)] []))
          refine own_join (fun cd5 : Int32 => own_cd A 5 cd5) (fun cd5 => s₁.setTop (mkF m 53 #[.val (.long m1), .second, .val (.int cd5)] [])) (fun J53 => ?_) (fun cd5 hcd5 => ?_)
          · skip
            refine own_lloadN (pc' := 43) X0 hx (hb hby d29_42) rfl rfl ?_
            refine own_ldc2Long (pc' := 46) X0 hx hZ hown (own_w hw 184 rfl) (hb hby d29_43) rfl ?_
            refine own_lcmp (pc' := 47) X0 hx (hb hby d29_46) rfl ?_
            refine own_ifl_gt (pt := 53) (pf := 50) X0 hx (hb hby d29_47) rfl (by decide) rfl (fun hc47 => ?_) (fun hc47 => ?_)
            · skip
              exact J53 cd4 (own_cdN hcd4 (by have q := hc47; rw [Int64.lt_iff_toInt_lt] at q; have q : (-100000 : Int) < m1.toInt := q; show A < 100000; omega))
            · skip
              refine own_bipush (pc' := 52) X0 hx (6 : Int32) (hb hby d29_50) rfl rfl ?_
              refine own_istoreN (pc' := 53) (l' := #[.val (.long m1), .second, .val (.int (6 : Int32))]) X0 hx (hb hby d29_52) rfl rfl rfl ?_
              exact J53 (6 : Int32) (own_cdY (j := 4) rfl (by have q := hc47; rw [Int64.lt_iff_toInt_lt] at q; have q : ¬ (-100000 : Int) < m1.toInt := q; show 100000 ≤ A; omega))
          · skip
            show own_WP _ _ _ _ _ _ _ (s₁.setTop (mkF m 53 #[.val (.long m1), .second, .val (.int cd5)] []))
            refine own_join (fun cd6 : Int32 => own_cd A 6 cd6) (fun cd6 => s₁.setTop (mkF m 64 #[.val (.long m1), .second, .val (.int cd6)] [])) (fun J64 => ?_) (fun cd6 hcd6 => ?_)
            · skip
              refine own_lloadN (pc' := 54) X0 hx (hb hby d29_53) rfl rfl ?_
              refine own_ldc2Long (pc' := 57) X0 hx hZ hown (own_w hw 185 rfl) (hb hby d29_54) rfl ?_
              refine own_lcmp (pc' := 58) X0 hx (hb hby d29_57) rfl ?_
              refine own_ifl_gt (pt := 64) (pf := 61) X0 hx (hb hby d29_58) rfl (by decide) rfl (fun hc58 => ?_) (fun hc58 => ?_)
              · skip
                exact J64 cd5 (own_cdN hcd5 (by have q := hc58; rw [Int64.lt_iff_toInt_lt] at q; have q : (-1000000 : Int) < m1.toInt := q; show A < 1000000; omega))
              · skip
                refine own_bipush (pc' := 63) X0 hx (7 : Int32) (hb hby d29_61) rfl rfl ?_
                refine own_istoreN (pc' := 64) (l' := #[.val (.long m1), .second, .val (.int (7 : Int32))]) X0 hx (hb hby d29_63) rfl rfl rfl ?_
                exact J64 (7 : Int32) (own_cdY (j := 5) rfl (by have q := hc58; rw [Int64.lt_iff_toInt_lt] at q; have q : ¬ (-1000000 : Int) < m1.toInt := q; show 1000000 ≤ A; omega))
            · skip
              show own_WP _ _ _ _ _ _ _ (s₁.setTop (mkF m 64 #[.val (.long m1), .second, .val (.int cd6)] []))
              refine own_join (fun cd7 : Int32 => own_cd A 7 cd7) (fun cd7 => s₁.setTop (mkF m 75 #[.val (.long m1), .second, .val (.int cd7)] [])) (fun J75 => ?_) (fun cd7 hcd7 => ?_)
              · skip
                refine own_lloadN (pc' := 65) X0 hx (hb hby d29_64) rfl rfl ?_
                refine own_ldc2Long (pc' := 68) X0 hx hZ hown (own_w hw 186 rfl) (hb hby d29_65) rfl ?_
                refine own_lcmp (pc' := 69) X0 hx (hb hby d29_68) rfl ?_
                refine own_ifl_gt (pt := 75) (pf := 72) X0 hx (hb hby d29_69) rfl (by decide) rfl (fun hc69 => ?_) (fun hc69 => ?_)
                · skip
                  exact J75 cd6 (own_cdN hcd6 (by have q := hc69; rw [Int64.lt_iff_toInt_lt] at q; have q : (-10000000 : Int) < m1.toInt := q; show A < 10000000; omega))
                · skip
                  refine own_bipush (pc' := 74) X0 hx (8 : Int32) (hb hby d29_72) rfl rfl ?_
                  refine own_istoreN (pc' := 75) (l' := #[.val (.long m1), .second, .val (.int (8 : Int32))]) X0 hx (hb hby d29_74) rfl rfl rfl ?_
                  exact J75 (8 : Int32) (own_cdY (j := 6) rfl (by have q := hc69; rw [Int64.lt_iff_toInt_lt] at q; have q : ¬ (-10000000 : Int) < m1.toInt := q; show 10000000 ≤ A; omega))
              · skip
                show own_WP _ _ _ _ _ _ _ (s₁.setTop (mkF m 75 #[.val (.long m1), .second, .val (.int cd7)] []))
                refine own_join (fun cd8 : Int32 => own_cd A 8 cd8) (fun cd8 => s₁.setTop (mkF m 86 #[.val (.long m1), .second, .val (.int cd8)] [])) (fun J86 => ?_) (fun cd8 hcd8 => ?_)
                · skip
                  refine own_lloadN (pc' := 76) X0 hx (hb hby d29_75) rfl rfl ?_
                  refine own_ldc2Long (pc' := 79) X0 hx hZ hown (own_w hw 187 rfl) (hb hby d29_76) rfl ?_
                  refine own_lcmp (pc' := 80) X0 hx (hb hby d29_79) rfl ?_
                  refine own_ifl_gt (pt := 86) (pf := 83) X0 hx (hb hby d29_80) rfl (by decide) rfl (fun hc80 => ?_) (fun hc80 => ?_)
                  · skip
                    exact J86 cd7 (own_cdN hcd7 (by have q := hc80; rw [Int64.lt_iff_toInt_lt] at q; have q : (-100000000 : Int) < m1.toInt := q; show A < 100000000; omega))
                  · skip
                    refine own_bipush (pc' := 85) X0 hx (9 : Int32) (hb hby d29_83) rfl rfl ?_
                    refine own_istoreN (pc' := 86) (l' := #[.val (.long m1), .second, .val (.int (9 : Int32))]) X0 hx (hb hby d29_85) rfl rfl rfl ?_
                    exact J86 (9 : Int32) (own_cdY (j := 7) rfl (by have q := hc80; rw [Int64.lt_iff_toInt_lt] at q; have q : ¬ (-100000000 : Int) < m1.toInt := q; show 100000000 ≤ A; omega))
                · skip
                  show own_WP _ _ _ _ _ _ _ (s₁.setTop (mkF m 86 #[.val (.long m1), .second, .val (.int cd8)] []))
                  refine own_join (fun cd9 : Int32 => own_cd A 9 cd9) (fun cd9 => s₁.setTop (mkF m 97 #[.val (.long m1), .second, .val (.int cd9)] [])) (fun J97 => ?_) (fun cd9 hcd9 => ?_)
                  · skip
                    refine own_lloadN (pc' := 87) X0 hx (hb hby d29_86) rfl rfl ?_
                    refine own_ldc2Long (pc' := 90) X0 hx hZ hown (own_w hw 188 rfl) (hb hby d29_87) rfl ?_
                    refine own_lcmp (pc' := 91) X0 hx (hb hby d29_90) rfl ?_
                    refine own_ifl_gt (pt := 97) (pf := 94) X0 hx (hb hby d29_91) rfl (by decide) rfl (fun hc91 => ?_) (fun hc91 => ?_)
                    · skip
                      exact J97 cd8 (own_cdN hcd8 (by have q := hc91; rw [Int64.lt_iff_toInt_lt] at q; have q : (-1000000000 : Int) < m1.toInt := q; show A < 1000000000; omega))
                    · skip
                      refine own_bipush (pc' := 96) X0 hx (10 : Int32) (hb hby d29_94) rfl rfl ?_
                      refine own_istoreN (pc' := 97) (l' := #[.val (.long m1), .second, .val (.int (10 : Int32))]) X0 hx (hb hby d29_96) rfl rfl rfl ?_
                      exact J97 (10 : Int32) (own_cdY (j := 8) rfl (by have q := hc91; rw [Int64.lt_iff_toInt_lt] at q; have q : ¬ (-1000000000 : Int) < m1.toInt := q; show 1000000000 ≤ A; omega))
                  · skip
                    show own_WP _ _ _ _ _ _ _ (s₁.setTop (mkF m 97 #[.val (.long m1), .second, .val (.int cd9)] []))
                    refine own_join (fun cd10 : Int32 => own_cd A 10 cd10) (fun cd10 => s₁.setTop (mkF m 108 #[.val (.long m1), .second, .val (.int cd10)] [])) (fun J108 => ?_) (fun cd10 hcd10 => ?_)
                    · skip
                      refine own_lloadN (pc' := 98) X0 hx (hb hby d29_97) rfl rfl ?_
                      refine own_ldc2Long (pc' := 101) X0 hx hZ hown (own_w hw 189 rfl) (hb hby d29_98) rfl ?_
                      refine own_lcmp (pc' := 102) X0 hx (hb hby d29_101) rfl ?_
                      refine own_ifl_gt (pt := 108) (pf := 105) X0 hx (hb hby d29_102) rfl (by decide) rfl (fun hc102 => ?_) (fun hc102 => ?_)
                      · skip
                        exact J108 cd9 (own_cdN hcd9 (by have q := hc102; rw [Int64.lt_iff_toInt_lt] at q; have q : (-10000000000 : Int) < m1.toInt := q; show A < 10000000000; omega))
                      · skip
                        refine own_bipush (pc' := 107) X0 hx (11 : Int32) (hb hby d29_105) rfl rfl ?_
                        refine own_istoreN (pc' := 108) (l' := #[.val (.long m1), .second, .val (.int (11 : Int32))]) X0 hx (hb hby d29_107) rfl rfl rfl ?_
                        exact J108 (11 : Int32) (own_cdY (j := 9) rfl (by have q := hc102; rw [Int64.lt_iff_toInt_lt] at q; have q : ¬ (-10000000000 : Int) < m1.toInt := q; show 10000000000 ≤ A; omega))
                    · skip
                      show own_WP _ _ _ _ _ _ _ (s₁.setTop (mkF m 108 #[.val (.long m1), .second, .val (.int cd10)] []))
                      refine own_join (fun cd11 : Int32 => own_cd A 11 cd11) (fun cd11 => s₁.setTop (mkF m 119 #[.val (.long m1), .second, .val (.int cd11)] [])) (fun J119 => ?_) (fun cd11 hcd11 => ?_)
                      · skip
                        refine own_lloadN (pc' := 109) X0 hx (hb hby d29_108) rfl rfl ?_
                        refine own_ldc2Long (pc' := 112) X0 hx hZ hown (own_w hw 190 rfl) (hb hby d29_109) rfl ?_
                        refine own_lcmp (pc' := 113) X0 hx (hb hby d29_112) rfl ?_
                        refine own_ifl_gt (pt := 119) (pf := 116) X0 hx (hb hby d29_113) rfl (by decide) rfl (fun hc113 => ?_) (fun hc113 => ?_)
                        · skip
                          exact J119 cd10 (own_cdN hcd10 (by have q := hc113; rw [Int64.lt_iff_toInt_lt] at q; have q : (-100000000000 : Int) < m1.toInt := q; show A < 100000000000; omega))
                        · skip
                          refine own_bipush (pc' := 118) X0 hx (12 : Int32) (hb hby d29_116) rfl rfl ?_
                          refine own_istoreN (pc' := 119) (l' := #[.val (.long m1), .second, .val (.int (12 : Int32))]) X0 hx (hb hby d29_118) rfl rfl rfl ?_
                          exact J119 (12 : Int32) (own_cdY (j := 10) rfl (by have q := hc113; rw [Int64.lt_iff_toInt_lt] at q; have q : ¬ (-100000000000 : Int) < m1.toInt := q; show 100000000000 ≤ A; omega))
                      · skip
                        show own_WP _ _ _ _ _ _ _ (s₁.setTop (mkF m 119 #[.val (.long m1), .second, .val (.int cd11)] []))
                        refine own_join (fun cd12 : Int32 => own_cd A 12 cd12) (fun cd12 => s₁.setTop (mkF m 130 #[.val (.long m1), .second, .val (.int cd12)] [])) (fun J130 => ?_) (fun cd12 hcd12 => ?_)
                        · skip
                          refine own_lloadN (pc' := 120) X0 hx (hb hby d29_119) rfl rfl ?_
                          refine own_ldc2Long (pc' := 123) X0 hx hZ hown (own_w hw 191 rfl) (hb hby d29_120) rfl ?_
                          refine own_lcmp (pc' := 124) X0 hx (hb hby d29_123) rfl ?_
                          refine own_ifl_gt (pt := 130) (pf := 127) X0 hx (hb hby d29_124) rfl (by decide) rfl (fun hc124 => ?_) (fun hc124 => ?_)
                          · skip
                            exact J130 cd11 (own_cdN hcd11 (by have q := hc124; rw [Int64.lt_iff_toInt_lt] at q; have q : (-1000000000000 : Int) < m1.toInt := q; show A < 1000000000000; omega))
                          · skip
                            refine own_bipush (pc' := 129) X0 hx (13 : Int32) (hb hby d29_127) rfl rfl ?_
                            refine own_istoreN (pc' := 130) (l' := #[.val (.long m1), .second, .val (.int (13 : Int32))]) X0 hx (hb hby d29_129) rfl rfl rfl ?_
                            exact J130 (13 : Int32) (own_cdY (j := 11) rfl (by have q := hc124; rw [Int64.lt_iff_toInt_lt] at q; have q : ¬ (-1000000000000 : Int) < m1.toInt := q; show 1000000000000 ≤ A; omega))
                        · skip
                          show own_WP _ _ _ _ _ _ _ (s₁.setTop (mkF m 130 #[.val (.long m1), .second, .val (.int cd12)] []))
                          refine own_join (fun cd13 : Int32 => own_cd A 13 cd13) (fun cd13 => s₁.setTop (mkF m 141 #[.val (.long m1), .second, .val (.int cd13)] [])) (fun J141 => ?_) (fun cd13 hcd13 => ?_)
                          · skip
                            refine own_lloadN (pc' := 131) X0 hx (hb hby d29_130) rfl rfl ?_
                            refine own_ldc2Long (pc' := 134) X0 hx hZ hown (own_w hw 192 rfl) (hb hby d29_131) rfl ?_
                            refine own_lcmp (pc' := 135) X0 hx (hb hby d29_134) rfl ?_
                            refine own_ifl_gt (pt := 141) (pf := 138) X0 hx (hb hby d29_135) rfl (by decide) rfl (fun hc135 => ?_) (fun hc135 => ?_)
                            · skip
                              exact J141 cd12 (own_cdN hcd12 (by have q := hc135; rw [Int64.lt_iff_toInt_lt] at q; have q : (-10000000000000 : Int) < m1.toInt := q; show A < 10000000000000; omega))
                            · skip
                              refine own_bipush (pc' := 140) X0 hx (14 : Int32) (hb hby d29_138) rfl rfl ?_
                              refine own_istoreN (pc' := 141) (l' := #[.val (.long m1), .second, .val (.int (14 : Int32))]) X0 hx (hb hby d29_140) rfl rfl rfl ?_
                              exact J141 (14 : Int32) (own_cdY (j := 12) rfl (by have q := hc135; rw [Int64.lt_iff_toInt_lt] at q; have q : ¬ (-10000000000000 : Int) < m1.toInt := q; show 10000000000000 ≤ A; omega))
                          · skip
                            show own_WP _ _ _ _ _ _ _ (s₁.setTop (mkF m 141 #[.val (.long m1), .second, .val (.int cd13)] []))
                            refine own_join (fun cd14 : Int32 => own_cd A 14 cd14) (fun cd14 => s₁.setTop (mkF m 152 #[.val (.long m1), .second, .val (.int cd14)] [])) (fun J152 => ?_) (fun cd14 hcd14 => ?_)
                            · skip
                              refine own_lloadN (pc' := 142) X0 hx (hb hby d29_141) rfl rfl ?_
                              refine own_ldc2Long (pc' := 145) X0 hx hZ hown (own_w hw 193 rfl) (hb hby d29_142) rfl ?_
                              refine own_lcmp (pc' := 146) X0 hx (hb hby d29_145) rfl ?_
                              refine own_ifl_gt (pt := 152) (pf := 149) X0 hx (hb hby d29_146) rfl (by decide) rfl (fun hc146 => ?_) (fun hc146 => ?_)
                              · skip
                                exact J152 cd13 (own_cdN hcd13 (by have q := hc146; rw [Int64.lt_iff_toInt_lt] at q; have q : (-100000000000000 : Int) < m1.toInt := q; show A < 100000000000000; omega))
                              · skip
                                refine own_bipush (pc' := 151) X0 hx (15 : Int32) (hb hby d29_149) rfl rfl ?_
                                refine own_istoreN (pc' := 152) (l' := #[.val (.long m1), .second, .val (.int (15 : Int32))]) X0 hx (hb hby d29_151) rfl rfl rfl ?_
                                exact J152 (15 : Int32) (own_cdY (j := 13) rfl (by have q := hc146; rw [Int64.lt_iff_toInt_lt] at q; have q : ¬ (-100000000000000 : Int) < m1.toInt := q; show 100000000000000 ≤ A; omega))
                            · skip
                              show own_WP _ _ _ _ _ _ _ (s₁.setTop (mkF m 152 #[.val (.long m1), .second, .val (.int cd14)] []))
                              refine own_join (fun cd15 : Int32 => own_cd A 15 cd15) (fun cd15 => s₁.setTop (mkF m 163 #[.val (.long m1), .second, .val (.int cd15)] [])) (fun J163 => ?_) (fun cd15 hcd15 => ?_)
                              · skip
                                refine own_lloadN (pc' := 153) X0 hx (hb hby d29_152) rfl rfl ?_
                                refine own_ldc2Long (pc' := 156) X0 hx hZ hown (own_w hw 194 rfl) (hb hby d29_153) rfl ?_
                                refine own_lcmp (pc' := 157) X0 hx (hb hby d29_156) rfl ?_
                                refine own_ifl_gt (pt := 163) (pf := 160) X0 hx (hb hby d29_157) rfl (by decide) rfl (fun hc157 => ?_) (fun hc157 => ?_)
                                · skip
                                  exact J163 cd14 (own_cdN hcd14 (by have q := hc157; rw [Int64.lt_iff_toInt_lt] at q; have q : (-1000000000000000 : Int) < m1.toInt := q; show A < 1000000000000000; omega))
                                · skip
                                  refine own_bipush (pc' := 162) X0 hx (16 : Int32) (hb hby d29_160) rfl rfl ?_
                                  refine own_istoreN (pc' := 163) (l' := #[.val (.long m1), .second, .val (.int (16 : Int32))]) X0 hx (hb hby d29_162) rfl rfl rfl ?_
                                  exact J163 (16 : Int32) (own_cdY (j := 14) rfl (by have q := hc157; rw [Int64.lt_iff_toInt_lt] at q; have q : ¬ (-1000000000000000 : Int) < m1.toInt := q; show 1000000000000000 ≤ A; omega))
                              · skip
                                show own_WP _ _ _ _ _ _ _ (s₁.setTop (mkF m 163 #[.val (.long m1), .second, .val (.int cd15)] []))
                                refine own_join (fun cd16 : Int32 => own_cd A 16 cd16) (fun cd16 => s₁.setTop (mkF m 174 #[.val (.long m1), .second, .val (.int cd16)] [])) (fun J174 => ?_) (fun cd16 hcd16 => ?_)
                                · skip
                                  refine own_lloadN (pc' := 164) X0 hx (hb hby d29_163) rfl rfl ?_
                                  refine own_ldc2Long (pc' := 167) X0 hx hZ hown (own_w hw 195 rfl) (hb hby d29_164) rfl ?_
                                  refine own_lcmp (pc' := 168) X0 hx (hb hby d29_167) rfl ?_
                                  refine own_ifl_gt (pt := 174) (pf := 171) X0 hx (hb hby d29_168) rfl (by decide) rfl (fun hc168 => ?_) (fun hc168 => ?_)
                                  · skip
                                    exact J174 cd15 (own_cdN hcd15 (by have q := hc168; rw [Int64.lt_iff_toInt_lt] at q; have q : (-10000000000000000 : Int) < m1.toInt := q; show A < 10000000000000000; omega))
                                  · skip
                                    refine own_bipush (pc' := 173) X0 hx (17 : Int32) (hb hby d29_171) rfl rfl ?_
                                    refine own_istoreN (pc' := 174) (l' := #[.val (.long m1), .second, .val (.int (17 : Int32))]) X0 hx (hb hby d29_173) rfl rfl rfl ?_
                                    exact J174 (17 : Int32) (own_cdY (j := 15) rfl (by have q := hc168; rw [Int64.lt_iff_toInt_lt] at q; have q : ¬ (-10000000000000000 : Int) < m1.toInt := q; show 10000000000000000 ≤ A; omega))
                                · skip
                                  show own_WP _ _ _ _ _ _ _ (s₁.setTop (mkF m 174 #[.val (.long m1), .second, .val (.int cd16)] []))
                                  refine own_join (fun cd17 : Int32 => own_cd A 17 cd17) (fun cd17 => s₁.setTop (mkF m 185 #[.val (.long m1), .second, .val (.int cd17)] [])) (fun J185 => ?_) (fun cd17 hcd17 => ?_)
                                  · skip
                                    refine own_lloadN (pc' := 175) X0 hx (hb hby d29_174) rfl rfl ?_
                                    refine own_ldc2Long (pc' := 178) X0 hx hZ hown (own_w hw 196 rfl) (hb hby d29_175) rfl ?_
                                    refine own_lcmp (pc' := 179) X0 hx (hb hby d29_178) rfl ?_
                                    refine own_ifl_gt (pt := 185) (pf := 182) X0 hx (hb hby d29_179) rfl (by decide) rfl (fun hc179 => ?_) (fun hc179 => ?_)
                                    · skip
                                      exact J185 cd16 (own_cdN hcd16 (by have q := hc179; rw [Int64.lt_iff_toInt_lt] at q; have q : (-100000000000000000 : Int) < m1.toInt := q; show A < 100000000000000000; omega))
                                    · skip
                                      refine own_bipush (pc' := 184) X0 hx (18 : Int32) (hb hby d29_182) rfl rfl ?_
                                      refine own_istoreN (pc' := 185) (l' := #[.val (.long m1), .second, .val (.int (18 : Int32))]) X0 hx (hb hby d29_184) rfl rfl rfl ?_
                                      exact J185 (18 : Int32) (own_cdY (j := 16) rfl (by have q := hc179; rw [Int64.lt_iff_toInt_lt] at q; have q : ¬ (-100000000000000000 : Int) < m1.toInt := q; show 100000000000000000 ≤ A; omega))
                                  · skip
                                    show own_WP _ _ _ _ _ _ _ (s₁.setTop (mkF m 185 #[.val (.long m1), .second, .val (.int cd17)] []))
                                    refine own_join (fun cd18 : Int32 => own_cd A 18 cd18) (fun cd18 => s₁.setTop (mkF m 196 #[.val (.long m1), .second, .val (.int cd18)] [])) (fun J196 => ?_) (fun cd18 hcd18 => ?_)
                                    · skip
                                      refine own_lloadN (pc' := 186) X0 hx (hb hby d29_185) rfl rfl ?_
                                      refine own_ldc2Long (pc' := 189) X0 hx hZ hown (own_w hw 197 rfl) (hb hby d29_186) rfl ?_
                                      refine own_lcmp (pc' := 190) X0 hx (hb hby d29_189) rfl ?_
                                      refine own_ifl_gt (pt := 196) (pf := 193) X0 hx (hb hby d29_190) rfl (by decide) rfl (fun hc190 => ?_) (fun hc190 => ?_)
                                      · skip
                                        exact J196 cd17 (own_cdN hcd17 (by have q := hc190; rw [Int64.lt_iff_toInt_lt] at q; have q : (-1000000000000000000 : Int) < m1.toInt := q; show A < 1000000000000000000; omega))
                                      · skip
                                        refine own_bipush (pc' := 195) X0 hx (19 : Int32) (hb hby d29_193) rfl rfl ?_
                                        refine own_istoreN (pc' := 196) (l' := #[.val (.long m1), .second, .val (.int (19 : Int32))]) X0 hx (hb hby d29_195) rfl rfl rfl ?_
                                        exact J196 (19 : Int32) (own_cdY (j := 17) rfl (by have q := hc190; rw [Int64.lt_iff_toInt_lt] at q; have q : ¬ (-1000000000000000000 : Int) < m1.toInt := q; show 1000000000000000000 ≤ A; omega))
                                    · skip
                                      show own_WP _ _ _ _ _ _ _ (s₁.setTop (mkF m 196 #[.val (.long m1), .second, .val (.int cd18)] []))
                                      refine own_iloadN (pc' := 197) X0 hx (hb hby d29_196) rfl rfl ?_
                                      refine own_retI X0 hx (fun _ _ _ _ q => q) hlk hret (hb hby d29_197) (by decide) (by decide) ?_
                                      exact ⟨cd18, rfl, own_cdE hcd18 (by have := rng64 m1; omega) hkk, rfl, e0⟩
theorem d30_0 : decode method_3_code 0 = .ok (.aload_n 0, 1) := by decide +kernel
theorem d30_1 : decode method_3_code 1 = .ok (.iconst 0, 1) := by decide +kernel
theorem d30_2 : decode method_3_code 2 = .ok (.invokevirtual 40, 3) := by decide +kernel
theorem d30_5 : decode method_3_code 5 = .ok (.bipush 114, 2) := by decide +kernel
theorem d30_7 : decode method_3_code 7 = .ok (.if_icmp .ne 134, 3) := by decide +kernel
theorem d30_10 : decode method_3_code 10 = .ok (.aload_n 0, 1) := by decide +kernel
theorem d30_11 : decode method_3_code 11 = .ok (.iconst 1, 1) := by decide +kernel
theorem d30_12 : decode method_3_code 12 = .ok (.invokevirtual 40, 3) := by decide +kernel
theorem d30_15 : decode method_3_code 15 = .ok (.bipush 101, 2) := by decide +kernel
theorem d30_17 : decode method_3_code 17 = .ok (.if_icmp .ne 124, 3) := by decide +kernel
theorem d30_20 : decode method_3_code 20 = .ok (.aload_n 0, 1) := by decide +kernel
theorem d30_21 : decode method_3_code 21 = .ok (.iconst 2, 1) := by decide +kernel
theorem d30_22 : decode method_3_code 22 = .ok (.invokevirtual 40, 3) := by decide +kernel
theorem d30_25 : decode method_3_code 25 = .ok (.bipush 102, 2) := by decide +kernel
theorem d30_27 : decode method_3_code 27 = .ok (.if_icmp .ne 114, 3) := by decide +kernel
theorem d30_30 : decode method_3_code 30 = .ok (.aload_n 0, 1) := by decide +kernel
theorem d30_31 : decode method_3_code 31 = .ok (.iconst 3, 1) := by decide +kernel
theorem d30_32 : decode method_3_code 32 = .ok (.invokevirtual 40, 3) := by decide +kernel
theorem d30_35 : decode method_3_code 35 = .ok (.bipush 117, 2) := by decide +kernel
theorem d30_37 : decode method_3_code 37 = .ok (.if_icmp .ne 104, 3) := by decide +kernel
theorem d30_40 : decode method_3_code 40 = .ok (.aload_n 0, 1) := by decide +kernel
theorem d30_41 : decode method_3_code 41 = .ok (.iconst 4, 1) := by decide +kernel
theorem d30_42 : decode method_3_code 42 = .ok (.invokevirtual 40, 3) := by decide +kernel
theorem d30_45 : decode method_3_code 45 = .ok (.bipush 115, 2) := by decide +kernel
theorem d30_47 : decode method_3_code 47 = .ok (.if_icmp .ne 94, 3) := by decide +kernel
theorem d30_50 : decode method_3_code 50 = .ok (.aload_n 0, 1) := by decide +kernel
theorem d30_51 : decode method_3_code 51 = .ok (.iconst 5, 1) := by decide +kernel
theorem d30_52 : decode method_3_code 52 = .ok (.invokevirtual 40, 3) := by decide +kernel
theorem d30_55 : decode method_3_code 55 = .ok (.bipush 101, 2) := by decide +kernel
theorem d30_57 : decode method_3_code 57 = .ok (.if_icmp .ne 84, 3) := by decide +kernel
theorem d30_60 : decode method_3_code 60 = .ok (.aload_n 0, 1) := by decide +kernel
theorem d30_61 : decode method_3_code 61 = .ok (.bipush 6, 2) := by decide +kernel
theorem d30_63 : decode method_3_code 63 = .ok (.invokevirtual 40, 3) := by decide +kernel
theorem d30_66 : decode method_3_code 66 = .ok (.bipush 100, 2) := by decide +kernel
theorem d30_68 : decode method_3_code 68 = .ok (.if_icmp .ne 73, 3) := by decide +kernel
theorem d30_71 : decode method_3_code 71 = .ok (.aload_n 0, 1) := by decide +kernel
theorem d30_72 : decode method_3_code 72 = .ok (.bipush 7, 2) := by decide +kernel
theorem d30_74 : decode method_3_code 74 = .ok (.invokevirtual 40, 3) := by decide +kernel
theorem d30_77 : decode method_3_code 77 = .ok (.bipush 32, 2) := by decide +kernel
theorem d30_79 : decode method_3_code 79 = .ok (.if_icmp .ne 62, 3) := by decide +kernel
theorem d30_82 : decode method_3_code 82 = .ok (.aload_n 0, 1) := by decide +kernel
theorem d30_83 : decode method_3_code 83 = .ok (.bipush 8, 2) := by decide +kernel
theorem d30_85 : decode method_3_code 85 = .ok (.invokevirtual 40, 3) := by decide +kernel
theorem d30_88 : decode method_3_code 88 = .ok (.bipush 108, 2) := by decide +kernel
theorem d30_90 : decode method_3_code 90 = .ok (.if_icmp .ne 51, 3) := by decide +kernel
theorem d30_93 : decode method_3_code 93 = .ok (.aload_n 0, 1) := by decide +kernel
theorem d30_94 : decode method_3_code 94 = .ok (.bipush 9, 2) := by decide +kernel
theorem d30_96 : decode method_3_code 96 = .ok (.invokevirtual 40, 3) := by decide +kernel
theorem d30_99 : decode method_3_code 99 = .ok (.bipush 105, 2) := by decide +kernel
theorem d30_101 : decode method_3_code 101 = .ok (.if_icmp .ne 40, 3) := by decide +kernel
theorem d30_104 : decode method_3_code 104 = .ok (.aload_n 0, 1) := by decide +kernel
theorem d30_105 : decode method_3_code 105 = .ok (.bipush 10, 2) := by decide +kernel
theorem d30_107 : decode method_3_code 107 = .ok (.invokevirtual 40, 3) := by decide +kernel
theorem d30_110 : decode method_3_code 110 = .ok (.bipush 110, 2) := by decide +kernel
theorem d30_112 : decode method_3_code 112 = .ok (.if_icmp .ne 29, 3) := by decide +kernel
theorem d30_115 : decode method_3_code 115 = .ok (.aload_n 0, 1) := by decide +kernel
theorem d30_116 : decode method_3_code 116 = .ok (.bipush 11, 2) := by decide +kernel
theorem d30_118 : decode method_3_code 118 = .ok (.invokevirtual 40, 3) := by decide +kernel
theorem d30_121 : decode method_3_code 121 = .ok (.bipush 101, 2) := by decide +kernel
theorem d30_123 : decode method_3_code 123 = .ok (.if_icmp .ne 18, 3) := by decide +kernel
theorem d30_126 : decode method_3_code 126 = .ok (.aload_n 0, 1) := by decide +kernel
theorem d30_127 : decode method_3_code 127 = .ok (.bipush 12, 2) := by decide +kernel
theorem d30_129 : decode method_3_code 129 = .ok (.invokevirtual 40, 3) := by decide +kernel
theorem d30_132 : decode method_3_code 132 = .ok (.bipush 32, 2) := by decide +kernel
theorem d30_134 : decode method_3_code 134 = .ok (.if_icmp .ne 7, 3) := by decide +kernel
theorem d30_137 : decode method_3_code 137 = .ok (.iconst 1, 1) := by decide +kernel
theorem d30_138 : decode method_3_code 138 = .ok (.goto 4, 3) := by decide +kernel
theorem d30_142 : decode method_3_code 142 = .ok (.ireturn, 1) := by decide +kernel
theorem pn_30 : plainFor (⟨"com/example/ossify/ossify/RefusalDescribePinLaw", "prefixOk", "(Ljava/lang/String;)Z"⟩ : MethodName) = true := plainFor_of_name (by first | (simp [plainName, overriddenIn]; done) | decide +kernel)
theorem ef_con_px (m : MethodId) (t : Addr) : entryFrame m #[(.ref t)] 1 = mkF m 0 #[.val (.ref t)] [] := by first | (simp [entryFrame, mkF, argsToLocals, Value.category]; done) | rfl
theorem pd33 : parseMethodDescriptor "(I)C" = some ⟨[.int], some .char⟩ := by decide +kernel
set_option maxRecDepth 65536 in
set_option maxHeartbeats 4000000 in
theorem con_px (l : Launch) (Z : State) (a0 : Array Value) (hw : ∀ d ∈ tables_1, d.before a0 Z = true) (t : Addr) (h0 : Heap) (n0 : Nat) (Z0 : n0 ≤ h0.size) (G1 : Int32) (fm : Value) (hG : own_G Z G1 fm) (X00 : own_Old Z n0 h0) (tb : Addr) (ktb : ClassId) (zz : Int32) (us : List Value) (hE : Exa Z h0 t "java/lang/String") (hC : Fld Z h0 t "java/lang/String" "coder" "B" (.int (0 : Int32))) (hV : Fld Z h0 t "java/lang/String" "value" "[B" (.ref tb)) (hA : Arv Z h0 tb ktb .byte zz us (.int (0 : Int32))) (rest : List Value) (hus : us = [.int (114 : Int32), .int (101 : Int32), .int (102 : Int32), .int (117 : Int32), .int (115 : Int32), .int (101 : Int32), .int (100 : Int32), .int (32 : Int32), .int (108 : Int32), .int (105 : Int32), .int (110 : Int32), .int (101 : Int32), .int (32 : Int32)] ++ rest) (hzz : 15 ≤ zz.toInt) :
    own_Con l Z (⟨"com/example/ossify/ossify/RefusalDescribePinLaw", "prefixOk", "(Ljava/lang/String;)Z"⟩ : MethodName) method_3_code 1 (some .boolean) ({ frames := 4, cells := 0, slots := 0, locals := 55 } : Room) #[(.ref t)] h0 (fun v h L => ∃ z : Int32, v = some (.int z) ∧ (z = 1) ∧ L = [] ∧ h = h0) := by
  refine own_Con_of pn_30 ?_
  intro p e s m below meth c s₁ X0 hx hby hml hret hlk hnm hown hZ e0
  have hown : s.vm.findClass "com/example/ossify/ossify/RefusalDescribePinLaw" = some m.cls := hown
  have hml : c.maxLocals = 1 := hml
  show own_WP _ _ _ _ _ _ _ (s₁.setTop (entryFrame m #[(.ref t)] 1))
  rw [ef_con_px m t]
  refine own_aloadN (pc' := 1) X0 hx (hb hby d30_0) rfl rfl rfl ?_
  refine own_iconst (pc' := 2) X0 hx (0 : Int32) (hb hby d30_1) rfl rfl ?_
  refine own_callV (pc' := 5) (W := 0) (y := (⟨"java/lang/String", "charAt", "(I)C"⟩ : MethodName)) (z := (⟨"java/lang/String", "charAt", "(I)C"⟩ : MethodName)) X0 hx hZ hown (own_w hw 202 rfl) (own_w hw 203 rfl) (notFace_of_selects (args := #[]) (mvT hZ (own_w hw 205 rfl))) (own_w hw 205 rfl) (own_w hw 204 rfl) (own_w hw 3 rfl) (own_w hw 206 rfl) (by decide) hE (con_charAt l Z a0 hw t (0 : Int32) _ n0 Z0 G1 fm hG X00 tb ktb zz _ hE hC hV hA (114 : Int32) ⟨by decide, by rw [Int32.lt_iff_toInt_lt]; show (0 : Int) < _; omega⟩ (by rw [hus]; rfl)) e0 pd33 [(.int (0 : Int32))] [] rfl rfl rfl (Nat.le_of_eq rfl) (by decide) (by decide) (by rw [hml]; rfl) (hb hby d30_2) (by decide) (by decide) rfl ?_
  intro v1 T1 L1 X1 q1
  obtain ⟨r1, rfl, hr1, rfl, e1⟩ := q1
  show own_WP _ _ _ _ _ _ _ (T1.setTop (mkF m 5 #[.val (.ref t)] [(.int r1)]))
  refine own_bipush (pc' := 7) X1 hx (114 : Int32) (hb hby d30_5) rfl rfl ?_
  refine own_icmp_ne (pt := 141) (pf := 10) X1 hx (hb hby d30_7) rfl (by decide) rfl (fun hc7 => absurd (by rw [hr1]; decide) hc7) (fun hc7 => ?_)
  refine own_aloadN (pc' := 11) X1 hx (hb hby d30_10) rfl rfl rfl ?_
  refine own_iconst (pc' := 12) X1 hx (1 : Int32) (hb hby d30_11) rfl rfl ?_
  refine own_callV (pc' := 15) (W := 0) (y := (⟨"java/lang/String", "charAt", "(I)C"⟩ : MethodName)) (z := (⟨"java/lang/String", "charAt", "(I)C"⟩ : MethodName)) X1 hx hZ hown (own_w hw 202 rfl) (own_w hw 203 rfl) (notFace_of_selects (args := #[]) (mvT hZ (own_w hw 205 rfl))) (own_w hw 205 rfl) (own_w hw 204 rfl) (own_w hw 3 rfl) (own_w hw 206 rfl) (by decide) hE (con_charAt l Z a0 hw t (1 : Int32) _ n0 Z0 G1 fm hG X00 tb ktb zz _ hE hC hV hA (101 : Int32) ⟨by decide, by rw [Int32.lt_iff_toInt_lt]; show (1 : Int) < _; omega⟩ (by rw [hus]; rfl)) e1 pd33 [(.int (1 : Int32))] [] rfl rfl rfl (Nat.le_of_eq rfl) (by decide) (by decide) (by rw [hml]; rfl) (hb hby d30_12) (by decide) (by decide) rfl ?_
  intro v2 T2 L2 X2 q2
  obtain ⟨r2, rfl, hr2, rfl, e2⟩ := q2
  show own_WP _ _ _ _ _ _ _ (T2.setTop (mkF m 15 #[.val (.ref t)] [(.int r2)]))
  refine own_bipush (pc' := 17) X2 hx (101 : Int32) (hb hby d30_15) rfl rfl ?_
  refine own_icmp_ne (pt := 141) (pf := 20) X2 hx (hb hby d30_17) rfl (by decide) rfl (fun hc17 => absurd (by rw [hr2]; decide) hc17) (fun hc17 => ?_)
  refine own_aloadN (pc' := 21) X2 hx (hb hby d30_20) rfl rfl rfl ?_
  refine own_iconst (pc' := 22) X2 hx (2 : Int32) (hb hby d30_21) rfl rfl ?_
  refine own_callV (pc' := 25) (W := 0) (y := (⟨"java/lang/String", "charAt", "(I)C"⟩ : MethodName)) (z := (⟨"java/lang/String", "charAt", "(I)C"⟩ : MethodName)) X2 hx hZ hown (own_w hw 202 rfl) (own_w hw 203 rfl) (notFace_of_selects (args := #[]) (mvT hZ (own_w hw 205 rfl))) (own_w hw 205 rfl) (own_w hw 204 rfl) (own_w hw 3 rfl) (own_w hw 206 rfl) (by decide) hE (con_charAt l Z a0 hw t (2 : Int32) _ n0 Z0 G1 fm hG X00 tb ktb zz _ hE hC hV hA (102 : Int32) ⟨by decide, by rw [Int32.lt_iff_toInt_lt]; show (2 : Int) < _; omega⟩ (by rw [hus]; rfl)) e2 pd33 [(.int (2 : Int32))] [] rfl rfl rfl (Nat.le_of_eq rfl) (by decide) (by decide) (by rw [hml]; rfl) (hb hby d30_22) (by decide) (by decide) rfl ?_
  intro v3 T3 L3 X3 q3
  obtain ⟨r3, rfl, hr3, rfl, e3⟩ := q3
  show own_WP _ _ _ _ _ _ _ (T3.setTop (mkF m 25 #[.val (.ref t)] [(.int r3)]))
  refine own_bipush (pc' := 27) X3 hx (102 : Int32) (hb hby d30_25) rfl rfl ?_
  refine own_icmp_ne (pt := 141) (pf := 30) X3 hx (hb hby d30_27) rfl (by decide) rfl (fun hc27 => absurd (by rw [hr3]; decide) hc27) (fun hc27 => ?_)
  refine own_aloadN (pc' := 31) X3 hx (hb hby d30_30) rfl rfl rfl ?_
  refine own_iconst (pc' := 32) X3 hx (3 : Int32) (hb hby d30_31) rfl rfl ?_
  refine own_callV (pc' := 35) (W := 0) (y := (⟨"java/lang/String", "charAt", "(I)C"⟩ : MethodName)) (z := (⟨"java/lang/String", "charAt", "(I)C"⟩ : MethodName)) X3 hx hZ hown (own_w hw 202 rfl) (own_w hw 203 rfl) (notFace_of_selects (args := #[]) (mvT hZ (own_w hw 205 rfl))) (own_w hw 205 rfl) (own_w hw 204 rfl) (own_w hw 3 rfl) (own_w hw 206 rfl) (by decide) hE (con_charAt l Z a0 hw t (3 : Int32) _ n0 Z0 G1 fm hG X00 tb ktb zz _ hE hC hV hA (117 : Int32) ⟨by decide, by rw [Int32.lt_iff_toInt_lt]; show (3 : Int) < _; omega⟩ (by rw [hus]; rfl)) e3 pd33 [(.int (3 : Int32))] [] rfl rfl rfl (Nat.le_of_eq rfl) (by decide) (by decide) (by rw [hml]; rfl) (hb hby d30_32) (by decide) (by decide) rfl ?_
  intro v4 T4 L4 X4 q4
  obtain ⟨r4, rfl, hr4, rfl, e4⟩ := q4
  show own_WP _ _ _ _ _ _ _ (T4.setTop (mkF m 35 #[.val (.ref t)] [(.int r4)]))
  refine own_bipush (pc' := 37) X4 hx (117 : Int32) (hb hby d30_35) rfl rfl ?_
  refine own_icmp_ne (pt := 141) (pf := 40) X4 hx (hb hby d30_37) rfl (by decide) rfl (fun hc37 => absurd (by rw [hr4]; decide) hc37) (fun hc37 => ?_)
  refine own_aloadN (pc' := 41) X4 hx (hb hby d30_40) rfl rfl rfl ?_
  refine own_iconst (pc' := 42) X4 hx (4 : Int32) (hb hby d30_41) rfl rfl ?_
  refine own_callV (pc' := 45) (W := 0) (y := (⟨"java/lang/String", "charAt", "(I)C"⟩ : MethodName)) (z := (⟨"java/lang/String", "charAt", "(I)C"⟩ : MethodName)) X4 hx hZ hown (own_w hw 202 rfl) (own_w hw 203 rfl) (notFace_of_selects (args := #[]) (mvT hZ (own_w hw 205 rfl))) (own_w hw 205 rfl) (own_w hw 204 rfl) (own_w hw 3 rfl) (own_w hw 206 rfl) (by decide) hE (con_charAt l Z a0 hw t (4 : Int32) _ n0 Z0 G1 fm hG X00 tb ktb zz _ hE hC hV hA (115 : Int32) ⟨by decide, by rw [Int32.lt_iff_toInt_lt]; show (4 : Int) < _; omega⟩ (by rw [hus]; rfl)) e4 pd33 [(.int (4 : Int32))] [] rfl rfl rfl (Nat.le_of_eq rfl) (by decide) (by decide) (by rw [hml]; rfl) (hb hby d30_42) (by decide) (by decide) rfl ?_
  intro v5 T5 L5 X5 q5
  obtain ⟨r5, rfl, hr5, rfl, e5⟩ := q5
  show own_WP _ _ _ _ _ _ _ (T5.setTop (mkF m 45 #[.val (.ref t)] [(.int r5)]))
  refine own_bipush (pc' := 47) X5 hx (115 : Int32) (hb hby d30_45) rfl rfl ?_
  refine own_icmp_ne (pt := 141) (pf := 50) X5 hx (hb hby d30_47) rfl (by decide) rfl (fun hc47 => absurd (by rw [hr5]; decide) hc47) (fun hc47 => ?_)
  refine own_aloadN (pc' := 51) X5 hx (hb hby d30_50) rfl rfl rfl ?_
  refine own_iconst (pc' := 52) X5 hx (5 : Int32) (hb hby d30_51) rfl rfl ?_
  refine own_callV (pc' := 55) (W := 0) (y := (⟨"java/lang/String", "charAt", "(I)C"⟩ : MethodName)) (z := (⟨"java/lang/String", "charAt", "(I)C"⟩ : MethodName)) X5 hx hZ hown (own_w hw 202 rfl) (own_w hw 203 rfl) (notFace_of_selects (args := #[]) (mvT hZ (own_w hw 205 rfl))) (own_w hw 205 rfl) (own_w hw 204 rfl) (own_w hw 3 rfl) (own_w hw 206 rfl) (by decide) hE (con_charAt l Z a0 hw t (5 : Int32) _ n0 Z0 G1 fm hG X00 tb ktb zz _ hE hC hV hA (101 : Int32) ⟨by decide, by rw [Int32.lt_iff_toInt_lt]; show (5 : Int) < _; omega⟩ (by rw [hus]; rfl)) e5 pd33 [(.int (5 : Int32))] [] rfl rfl rfl (Nat.le_of_eq rfl) (by decide) (by decide) (by rw [hml]; rfl) (hb hby d30_52) (by decide) (by decide) rfl ?_
  intro v6 T6 L6 X6 q6
  obtain ⟨r6, rfl, hr6, rfl, e6⟩ := q6
  show own_WP _ _ _ _ _ _ _ (T6.setTop (mkF m 55 #[.val (.ref t)] [(.int r6)]))
  refine own_bipush (pc' := 57) X6 hx (101 : Int32) (hb hby d30_55) rfl rfl ?_
  refine own_icmp_ne (pt := 141) (pf := 60) X6 hx (hb hby d30_57) rfl (by decide) rfl (fun hc57 => absurd (by rw [hr6]; decide) hc57) (fun hc57 => ?_)
  refine own_aloadN (pc' := 61) X6 hx (hb hby d30_60) rfl rfl rfl ?_
  refine own_bipush (pc' := 63) X6 hx (6 : Int32) (hb hby d30_61) rfl rfl ?_
  refine own_callV (pc' := 66) (W := 0) (y := (⟨"java/lang/String", "charAt", "(I)C"⟩ : MethodName)) (z := (⟨"java/lang/String", "charAt", "(I)C"⟩ : MethodName)) X6 hx hZ hown (own_w hw 202 rfl) (own_w hw 203 rfl) (notFace_of_selects (args := #[]) (mvT hZ (own_w hw 205 rfl))) (own_w hw 205 rfl) (own_w hw 204 rfl) (own_w hw 3 rfl) (own_w hw 206 rfl) (by decide) hE (con_charAt l Z a0 hw t (6 : Int32) _ n0 Z0 G1 fm hG X00 tb ktb zz _ hE hC hV hA (100 : Int32) ⟨by decide, by rw [Int32.lt_iff_toInt_lt]; show (6 : Int) < _; omega⟩ (by rw [hus]; rfl)) e6 pd33 [(.int (6 : Int32))] [] rfl rfl rfl (Nat.le_of_eq rfl) (by decide) (by decide) (by rw [hml]; rfl) (hb hby d30_63) (by decide) (by decide) rfl ?_
  intro v7 T7 L7 X7 q7
  obtain ⟨r7, rfl, hr7, rfl, e7⟩ := q7
  show own_WP _ _ _ _ _ _ _ (T7.setTop (mkF m 66 #[.val (.ref t)] [(.int r7)]))
  refine own_bipush (pc' := 68) X7 hx (100 : Int32) (hb hby d30_66) rfl rfl ?_
  refine own_icmp_ne (pt := 141) (pf := 71) X7 hx (hb hby d30_68) rfl (by decide) rfl (fun hc68 => absurd (by rw [hr7]; decide) hc68) (fun hc68 => ?_)
  refine own_aloadN (pc' := 72) X7 hx (hb hby d30_71) rfl rfl rfl ?_
  refine own_bipush (pc' := 74) X7 hx (7 : Int32) (hb hby d30_72) rfl rfl ?_
  refine own_callV (pc' := 77) (W := 0) (y := (⟨"java/lang/String", "charAt", "(I)C"⟩ : MethodName)) (z := (⟨"java/lang/String", "charAt", "(I)C"⟩ : MethodName)) X7 hx hZ hown (own_w hw 202 rfl) (own_w hw 203 rfl) (notFace_of_selects (args := #[]) (mvT hZ (own_w hw 205 rfl))) (own_w hw 205 rfl) (own_w hw 204 rfl) (own_w hw 3 rfl) (own_w hw 206 rfl) (by decide) hE (con_charAt l Z a0 hw t (7 : Int32) _ n0 Z0 G1 fm hG X00 tb ktb zz _ hE hC hV hA (32 : Int32) ⟨by decide, by rw [Int32.lt_iff_toInt_lt]; show (7 : Int) < _; omega⟩ (by rw [hus]; rfl)) e7 pd33 [(.int (7 : Int32))] [] rfl rfl rfl (Nat.le_of_eq rfl) (by decide) (by decide) (by rw [hml]; rfl) (hb hby d30_74) (by decide) (by decide) rfl ?_
  intro v8 T8 L8 X8 q8
  obtain ⟨r8, rfl, hr8, rfl, e8⟩ := q8
  show own_WP _ _ _ _ _ _ _ (T8.setTop (mkF m 77 #[.val (.ref t)] [(.int r8)]))
  refine own_bipush (pc' := 79) X8 hx (32 : Int32) (hb hby d30_77) rfl rfl ?_
  refine own_icmp_ne (pt := 141) (pf := 82) X8 hx (hb hby d30_79) rfl (by decide) rfl (fun hc79 => absurd (by rw [hr8]; decide) hc79) (fun hc79 => ?_)
  refine own_aloadN (pc' := 83) X8 hx (hb hby d30_82) rfl rfl rfl ?_
  refine own_bipush (pc' := 85) X8 hx (8 : Int32) (hb hby d30_83) rfl rfl ?_
  refine own_callV (pc' := 88) (W := 0) (y := (⟨"java/lang/String", "charAt", "(I)C"⟩ : MethodName)) (z := (⟨"java/lang/String", "charAt", "(I)C"⟩ : MethodName)) X8 hx hZ hown (own_w hw 202 rfl) (own_w hw 203 rfl) (notFace_of_selects (args := #[]) (mvT hZ (own_w hw 205 rfl))) (own_w hw 205 rfl) (own_w hw 204 rfl) (own_w hw 3 rfl) (own_w hw 206 rfl) (by decide) hE (con_charAt l Z a0 hw t (8 : Int32) _ n0 Z0 G1 fm hG X00 tb ktb zz _ hE hC hV hA (108 : Int32) ⟨by decide, by rw [Int32.lt_iff_toInt_lt]; show (8 : Int) < _; omega⟩ (by rw [hus]; rfl)) e8 pd33 [(.int (8 : Int32))] [] rfl rfl rfl (Nat.le_of_eq rfl) (by decide) (by decide) (by rw [hml]; rfl) (hb hby d30_85) (by decide) (by decide) rfl ?_
  intro v9 T9 L9 X9 q9
  obtain ⟨r9, rfl, hr9, rfl, e9⟩ := q9
  show own_WP _ _ _ _ _ _ _ (T9.setTop (mkF m 88 #[.val (.ref t)] [(.int r9)]))
  refine own_bipush (pc' := 90) X9 hx (108 : Int32) (hb hby d30_88) rfl rfl ?_
  refine own_icmp_ne (pt := 141) (pf := 93) X9 hx (hb hby d30_90) rfl (by decide) rfl (fun hc90 => absurd (by rw [hr9]; decide) hc90) (fun hc90 => ?_)
  refine own_aloadN (pc' := 94) X9 hx (hb hby d30_93) rfl rfl rfl ?_
  refine own_bipush (pc' := 96) X9 hx (9 : Int32) (hb hby d30_94) rfl rfl ?_
  refine own_callV (pc' := 99) (W := 0) (y := (⟨"java/lang/String", "charAt", "(I)C"⟩ : MethodName)) (z := (⟨"java/lang/String", "charAt", "(I)C"⟩ : MethodName)) X9 hx hZ hown (own_w hw 202 rfl) (own_w hw 203 rfl) (notFace_of_selects (args := #[]) (mvT hZ (own_w hw 205 rfl))) (own_w hw 205 rfl) (own_w hw 204 rfl) (own_w hw 3 rfl) (own_w hw 206 rfl) (by decide) hE (con_charAt l Z a0 hw t (9 : Int32) _ n0 Z0 G1 fm hG X00 tb ktb zz _ hE hC hV hA (105 : Int32) ⟨by decide, by rw [Int32.lt_iff_toInt_lt]; show (9 : Int) < _; omega⟩ (by rw [hus]; rfl)) e9 pd33 [(.int (9 : Int32))] [] rfl rfl rfl (Nat.le_of_eq rfl) (by decide) (by decide) (by rw [hml]; rfl) (hb hby d30_96) (by decide) (by decide) rfl ?_
  intro v10 T10 L10 X10 q10
  obtain ⟨r10, rfl, hr10, rfl, e10⟩ := q10
  show own_WP _ _ _ _ _ _ _ (T10.setTop (mkF m 99 #[.val (.ref t)] [(.int r10)]))
  refine own_bipush (pc' := 101) X10 hx (105 : Int32) (hb hby d30_99) rfl rfl ?_
  refine own_icmp_ne (pt := 141) (pf := 104) X10 hx (hb hby d30_101) rfl (by decide) rfl (fun hc101 => absurd (by rw [hr10]; decide) hc101) (fun hc101 => ?_)
  refine own_aloadN (pc' := 105) X10 hx (hb hby d30_104) rfl rfl rfl ?_
  refine own_bipush (pc' := 107) X10 hx (10 : Int32) (hb hby d30_105) rfl rfl ?_
  refine own_callV (pc' := 110) (W := 0) (y := (⟨"java/lang/String", "charAt", "(I)C"⟩ : MethodName)) (z := (⟨"java/lang/String", "charAt", "(I)C"⟩ : MethodName)) X10 hx hZ hown (own_w hw 202 rfl) (own_w hw 203 rfl) (notFace_of_selects (args := #[]) (mvT hZ (own_w hw 205 rfl))) (own_w hw 205 rfl) (own_w hw 204 rfl) (own_w hw 3 rfl) (own_w hw 206 rfl) (by decide) hE (con_charAt l Z a0 hw t (10 : Int32) _ n0 Z0 G1 fm hG X00 tb ktb zz _ hE hC hV hA (110 : Int32) ⟨by decide, by rw [Int32.lt_iff_toInt_lt]; show (10 : Int) < _; omega⟩ (by rw [hus]; rfl)) e10 pd33 [(.int (10 : Int32))] [] rfl rfl rfl (Nat.le_of_eq rfl) (by decide) (by decide) (by rw [hml]; rfl) (hb hby d30_107) (by decide) (by decide) rfl ?_
  intro v11 T11 L11 X11 q11
  obtain ⟨r11, rfl, hr11, rfl, e11⟩ := q11
  show own_WP _ _ _ _ _ _ _ (T11.setTop (mkF m 110 #[.val (.ref t)] [(.int r11)]))
  refine own_bipush (pc' := 112) X11 hx (110 : Int32) (hb hby d30_110) rfl rfl ?_
  refine own_icmp_ne (pt := 141) (pf := 115) X11 hx (hb hby d30_112) rfl (by decide) rfl (fun hc112 => absurd (by rw [hr11]; decide) hc112) (fun hc112 => ?_)
  refine own_aloadN (pc' := 116) X11 hx (hb hby d30_115) rfl rfl rfl ?_
  refine own_bipush (pc' := 118) X11 hx (11 : Int32) (hb hby d30_116) rfl rfl ?_
  refine own_callV (pc' := 121) (W := 0) (y := (⟨"java/lang/String", "charAt", "(I)C"⟩ : MethodName)) (z := (⟨"java/lang/String", "charAt", "(I)C"⟩ : MethodName)) X11 hx hZ hown (own_w hw 202 rfl) (own_w hw 203 rfl) (notFace_of_selects (args := #[]) (mvT hZ (own_w hw 205 rfl))) (own_w hw 205 rfl) (own_w hw 204 rfl) (own_w hw 3 rfl) (own_w hw 206 rfl) (by decide) hE (con_charAt l Z a0 hw t (11 : Int32) _ n0 Z0 G1 fm hG X00 tb ktb zz _ hE hC hV hA (101 : Int32) ⟨by decide, by rw [Int32.lt_iff_toInt_lt]; show (11 : Int) < _; omega⟩ (by rw [hus]; rfl)) e11 pd33 [(.int (11 : Int32))] [] rfl rfl rfl (Nat.le_of_eq rfl) (by decide) (by decide) (by rw [hml]; rfl) (hb hby d30_118) (by decide) (by decide) rfl ?_
  intro v12 T12 L12 X12 q12
  obtain ⟨r12, rfl, hr12, rfl, e12⟩ := q12
  show own_WP _ _ _ _ _ _ _ (T12.setTop (mkF m 121 #[.val (.ref t)] [(.int r12)]))
  refine own_bipush (pc' := 123) X12 hx (101 : Int32) (hb hby d30_121) rfl rfl ?_
  refine own_icmp_ne (pt := 141) (pf := 126) X12 hx (hb hby d30_123) rfl (by decide) rfl (fun hc123 => absurd (by rw [hr12]; decide) hc123) (fun hc123 => ?_)
  refine own_aloadN (pc' := 127) X12 hx (hb hby d30_126) rfl rfl rfl ?_
  refine own_bipush (pc' := 129) X12 hx (12 : Int32) (hb hby d30_127) rfl rfl ?_
  refine own_callV (pc' := 132) (W := 0) (y := (⟨"java/lang/String", "charAt", "(I)C"⟩ : MethodName)) (z := (⟨"java/lang/String", "charAt", "(I)C"⟩ : MethodName)) X12 hx hZ hown (own_w hw 202 rfl) (own_w hw 203 rfl) (notFace_of_selects (args := #[]) (mvT hZ (own_w hw 205 rfl))) (own_w hw 205 rfl) (own_w hw 204 rfl) (own_w hw 3 rfl) (own_w hw 206 rfl) (by decide) hE (con_charAt l Z a0 hw t (12 : Int32) _ n0 Z0 G1 fm hG X00 tb ktb zz _ hE hC hV hA (32 : Int32) ⟨by decide, by rw [Int32.lt_iff_toInt_lt]; show (12 : Int) < _; omega⟩ (by rw [hus]; rfl)) e12 pd33 [(.int (12 : Int32))] [] rfl rfl rfl (Nat.le_of_eq rfl) (by decide) (by decide) (by rw [hml]; rfl) (hb hby d30_129) (by decide) (by decide) rfl ?_
  intro v13 T13 L13 X13 q13
  obtain ⟨r13, rfl, hr13, rfl, e13⟩ := q13
  show own_WP _ _ _ _ _ _ _ (T13.setTop (mkF m 132 #[.val (.ref t)] [(.int r13)]))
  refine own_bipush (pc' := 134) X13 hx (32 : Int32) (hb hby d30_132) rfl rfl ?_
  refine own_icmp_ne (pt := 141) (pf := 137) X13 hx (hb hby d30_134) rfl (by decide) rfl (fun hc134 => absurd (by rw [hr13]; decide) hc134) (fun hc134 => ?_)
  refine own_iconst (pc' := 138) X13 hx (1 : Int32) (hb hby d30_137) rfl rfl ?_
  refine own_goto (pc' := 142) X13 hx (hb hby d30_138) (by decide) rfl ?_
  refine own_retN X13 hx (fun _ _ _ _ q => q) hlk (t := .boolean) (by decide) hret (hb hby d30_142) (by decide) (by decide) ?_
  exact ⟨(1 : Int32), rfl, rfl, rfl, e13⟩
theorem d36_0 : decode method_5_code 0 = .ok (.iload 6, 2) := by decide +kernel
theorem d36_2 : decode method_5_code 2 = .ok (.iload 7, 2) := by decide +kernel
theorem d36_4 : decode method_5_code 4 = .ok (.if_icmp .lt 5, 3) := by decide +kernel
theorem d36_7 : decode method_5_code 7 = .ok (.iconst 1, 1) := by decide +kernel
theorem d36_8 : decode method_5_code 8 = .ok (.ireturn, 1) := by decide +kernel
theorem d36_9 : decode method_5_code 9 = .ok (.lload_n 2, 1) := by decide +kernel
theorem d36_10 : decode method_5_code 10 = .ok (.lload 4, 2) := by decide +kernel
theorem d36_12 : decode method_5_code 12 = .ok (.ldiv, 1) := by decide +kernel
theorem d36_13 : decode method_5_code 13 = .ok (.ldc2_w 48, 3) := by decide +kernel
theorem d36_16 : decode method_5_code 16 = .ok (.lrem, 1) := by decide +kernel
theorem d36_17 : decode method_5_code 17 = .ok (.l2i, 1) := by decide +kernel
theorem d36_18 : decode method_5_code 18 = .ok (.istore 8, 2) := by decide +kernel
theorem d36_20 : decode method_5_code 20 = .ok (.aload_n 0, 1) := by decide +kernel
theorem d36_21 : decode method_5_code 21 = .ok (.iload_n 1, 1) := by decide +kernel
theorem d36_22 : decode method_5_code 22 = .ok (.iload 6, 2) := by decide +kernel
theorem d36_24 : decode method_5_code 24 = .ok (.isub, 1) := by decide +kernel
theorem d36_25 : decode method_5_code 25 = .ok (.invokevirtual 40, 3) := by decide +kernel
theorem d36_28 : decode method_5_code 28 = .ok (.bipush 48, 2) := by decide +kernel
theorem d36_30 : decode method_5_code 30 = .ok (.iload 8, 2) := by decide +kernel
theorem d36_32 : decode method_5_code 32 = .ok (.isub, 1) := by decide +kernel
theorem d36_33 : decode method_5_code 33 = .ok (.i2c, 1) := by decide +kernel
theorem d36_34 : decode method_5_code 34 = .ok (.if_icmp .ne 7, 3) := by decide +kernel
theorem d36_37 : decode method_5_code 37 = .ok (.iconst 1, 1) := by decide +kernel
theorem d36_38 : decode method_5_code 38 = .ok (.goto 4, 3) := by decide +kernel
theorem d36_42 : decode method_5_code 42 = .ok (.ireturn, 1) := by decide +kernel
theorem pn_36 : plainFor (⟨"com/example/ossify/ossify/RefusalDescribePinLaw", "digitOk", "(Ljava/lang/String;IJJII)Z"⟩ : MethodName) = true := plainFor_of_name (by first | (simp [plainName, overriddenIn]; done) | decide +kernel)
theorem ef_con_dg (m : MethodId) (t : Addr) (la : Int32) (m1 : Int64) (pw : Int64) (kq : Int32) (cq : Int32) : entryFrame m #[(.ref t), (.int la), (.long m1), (.long pw), (.int kq), (.int cq)] 9 = mkF m 0 #[.val (.ref t), .val (.int la), .val (.long m1), .second, .val (.long pw), .second, .val (.int kq), .val (.int cq), .unset] [] := by first | (simp [entryFrame, mkF, argsToLocals, Value.category]; done) | rfl
set_option maxRecDepth 65536 in
set_option maxHeartbeats 4000000 in
theorem con_dg (l : Launch) (Z : State) (a0 : Array Value) (hw : ∀ d ∈ tables_1, d.before a0 Z = true) (t : Addr) (la : Int32) (m1 : Int64) (pw : Int64) (kq : Int32) (cq : Int32) (h0 : Heap) (n0 : Nat) (Z0 : n0 ≤ h0.size) (G1 : Int32) (fm : Value) (hG : own_G Z G1 fm) (X00 : own_Old Z n0 h0) (tb : Addr) (ktb : ClassId) (zz : Int32) (us : List Value) (hE : Exa Z h0 t "java/lang/String") (hC : Fld Z h0 t "java/lang/String" "coder" "B" (.int (0 : Int32))) (hV : Fld Z h0 t "java/lang/String" "value" "[B" (.ref tb)) (hA : Arv Z h0 tb ktb .byte zz us (.int (0 : Int32))) (A K : Nat) (hm : m1.toInt = -(A : Int)) (hpw : pw.toInt = ((10 ^ K : Nat) : Int)) (hd : kq < cq → (¬ (la - kq) < 0 ∧ (la - kq) < zz) ∧ us.getD (la - kq).toNatClampNeg (.int (0 : Int32)) = .int (own_dig A K)) :
    own_Con l Z (⟨"com/example/ossify/ossify/RefusalDescribePinLaw", "digitOk", "(Ljava/lang/String;IJJII)Z"⟩ : MethodName) method_5_code 9 (some .boolean) ({ frames := 4, cells := 0, slots := 0, locals := 55 } : Room) #[(.ref t), (.int la), (.long m1), (.long pw), (.int kq), (.int cq)] h0 (fun v h L => ∃ z : Int32, v = some (.int z) ∧ (z = 1) ∧ L = [] ∧ h = h0) := by
  refine own_Con_of pn_36 ?_
  intro p e s m below meth c s₁ X0 hx hby hml hret hlk hnm hown hZ e0
  have hown : s.vm.findClass "com/example/ossify/ossify/RefusalDescribePinLaw" = some m.cls := hown
  have hml : c.maxLocals = 9 := hml
  show own_WP _ _ _ _ _ _ _ (s₁.setTop (entryFrame m #[(.ref t), (.int la), (.long m1), (.long pw), (.int kq), (.int cq)] 9))
  rw [ef_con_dg m t la m1 pw kq cq]
  refine own_iload (pc' := 2) X0 hx (hb hby d36_0) rfl rfl ?_
  refine own_iload (pc' := 4) X0 hx (hb hby d36_2) rfl rfl ?_
  refine own_icmp_lt (pt := 9) (pf := 7) X0 hx (hb hby d36_4) rfl (by decide) rfl (fun hc4 => ?_) (fun hc4 => ?_)
  · skip
    refine own_lloadN (pc' := 10) X0 hx (hb hby d36_9) rfl rfl ?_
    refine own_lload (pc' := 12) X0 hx (hb hby d36_10) rfl rfl ?_
    refine own_ldiv (pc' := 13) X0 hx (hb hby d36_12) (fun q => by rw [q] at hpw; have e : (0 : Int64).toInt = 0 := rfl; have := Nat.pow_pos (n := K) (by decide : 0 < 10); omega) rfl ?_
    refine own_ldc2Long (pc' := 16) X0 hx hZ hown (own_w hw 227 rfl) (hb hby d36_13) rfl ?_
    refine own_lrem (pc' := 17) X0 hx (hb hby d36_16) (by decide) rfl ?_
    refine own_l2i (pc' := 18) X0 hx (hb hby d36_17) rfl ?_
    obtain ⟨v1, hv1⟩ : ∃ z : Int32, z = (((m1 / pw) % (10 : Int64)).toInt32) := ⟨_, rfl⟩
    refine own_istore (pc' := 20) (l' := #[.val (.ref t), .val (.int la), .val (.long m1), .second, .val (.long pw), .second, .val (.int kq), .val (.int cq), .val (.int v1)]) X0 hx (hb hby d36_18) hv1 rfl rfl ?_
    refine own_aloadN (pc' := 21) X0 hx (hb hby d36_20) rfl rfl rfl ?_
    refine own_iloadN (pc' := 22) X0 hx (hb hby d36_21) rfl rfl ?_
    refine own_iload (pc' := 24) X0 hx (hb hby d36_22) rfl rfl ?_
    refine own_isub (pc' := 25) X0 hx (hb hby d36_24) rfl ?_
    refine own_callV (pc' := 28) (W := 0) (y := (⟨"java/lang/String", "charAt", "(I)C"⟩ : MethodName)) (z := (⟨"java/lang/String", "charAt", "(I)C"⟩ : MethodName)) X0 hx hZ hown (own_w hw 202 rfl) (own_w hw 203 rfl) (notFace_of_selects (args := #[]) (mvT hZ (own_w hw 205 rfl))) (own_w hw 205 rfl) (own_w hw 204 rfl) (own_w hw 3 rfl) (own_w hw 206 rfl) (by decide) hE (con_charAt l Z a0 hw t (la - kq) _ n0 Z0 G1 fm hG X00 tb ktb zz _ hE hC hV hA (own_dig A K) (hd hc4).1 (hd hc4).2) e0 pd33 [(.int (la - kq))] [] rfl rfl rfl (Nat.le_of_eq rfl) (by decide) (by decide) (by rw [hml]; rfl) (hb hby d36_25) (by decide) (by decide) rfl ?_
    intro v2 T2 L2 X2 q2
    obtain ⟨r2, rfl, hr2, rfl, e2⟩ := q2
    show own_WP _ _ _ _ _ _ _ (T2.setTop (mkF m 28 #[.val (.ref t), .val (.int la), .val (.long m1), .second, .val (.long pw), .second, .val (.int kq), .val (.int cq), .val (.int v1)] [(.int r2)]))
    refine own_bipush (pc' := 30) X2 hx (48 : Int32) (hb hby d36_28) rfl rfl ?_
    refine own_iload (pc' := 32) X2 hx (hb hby d36_30) rfl rfl ?_
    refine own_isub (pc' := 33) X2 hx (hb hby d36_32) rfl ?_
    refine own_i2c (pc' := 34) X2 hx (hb hby d36_33) rfl ?_
    refine own_icmp_ne (pt := 41) (pf := 37) X2 hx (hb hby d36_34) rfl (by decide) rfl (fun hc34 => absurd (by rw [hr2]; exact (own_chdig A K).trans (own_dgE hm hpw hv1).symm) hc34) (fun hc34 => ?_)
    refine own_iconst (pc' := 38) X2 hx (1 : Int32) (hb hby d36_37) rfl rfl ?_
    refine own_goto (pc' := 42) X2 hx (hb hby d36_38) (by decide) rfl ?_
    refine own_retN X2 hx (fun _ _ _ _ q => q) hlk (t := .boolean) (by decide) hret (hb hby d36_42) (by decide) (by decide) ?_
    exact ⟨(1 : Int32), rfl, rfl, rfl, e2⟩
  · skip
    refine own_iconst (pc' := 8) X0 hx (1 : Int32) (hb hby d36_7) rfl rfl ?_
    refine own_retN X0 hx (fun _ _ _ _ q => q) hlk (t := .boolean) (by decide) hret (hb hby d36_8) (by decide) (by decide) ?_
    exact ⟨(1 : Int32), rfl, rfl, rfl, e0⟩
theorem pn_0 : plainFor x = true := plainFor_of_name (by first | (simp [plainName, overriddenIn]; done) | decide +kernel)
theorem pd34 : parseMethodDescriptor "(Ljava/lang/String;)Z" = some ⟨[(.object "java/lang/String")], some .boolean⟩ := by decide +kernel
theorem pd35 : parseMethodDescriptor "(Ljava/lang/String;IJJII)Z" = some ⟨[(.object "java/lang/String"), .int, .long, .long, .int, .int], some .boolean⟩ := by decide +kernel
set_option maxRecDepth 65536 in
set_option maxHeartbeats 8000000 in
theorem lawT {p : Program} {l : Launch} {e : Env} {s : State} {m : MethodId} {args : Array Value} {below : List Frame} {meth : Method} {c : Code} {Z : State} {a0 : Array Value} (hw : ∀ d ∈ tables_1, d.before a0 Z = true) (hx : p.tables.exec = Jvm.exec) (hby : c.code = code) (hml : c.maxLocals = 17) (hret : meth.sig.returnType = some .boolean) (hlk : meth.locks = false) (G1 : Int32) (fm : Value) (hG : own_G Z G1 fm) (n0 : Nat) (vm0 : Vm) (k0 : Nat) (T0 : State) (hh : Heap) (lc : List Loc) (hown : vm0.findClass "com/example/ossify/ossify/RefusalDescribePinLaw" = some m.cls) (hZ : Z.Warmed39 vm0) (hS : s.Since vm0 k0) (kz0 : k0 ≤ hh.size) (X0 : Stand p l e ({ frames := 10, cells := 40, slots := 3520, locals := 224 } : Room) (s.setVm vm0) m args below meth c T0 lc 34 3000) (e0 : T0.heap = hh) (N0 : Fr n0 lc) (O0 : own_Old Z n0 hh) (z0 : n0 ≤ hh.size) (xl : Int64) (i1 i2 i3 rr c0 c1 : Int32) (a8 t : Addr) (tb : Addr) (ktb : ClassId) (cn : Int32) (us : List Value) (hE : Exa Z hh t "java/lang/String") (hC : Fld Z hh t "java/lang/String" "coder" "B" (.int (0 : Int32))) (hV : Fld Z hh t "java/lang/String" "value" "[B" (.ref tb)) (hA : Arv Z hh tb ktb .byte cn us (.int (0 : Int32))) (ws : List Value) (kk : Nat) (ng : Int32) (hkk : own_dgs xl.toInt.natAbs kk) (hngx : (xl.toInt < 0 ∧ ng = 1) ∨ (¬ xl.toInt < 0 ∧ ng = 0)) (hcn : cn.toInt = 15 + (kk : Int) + ng.toInt + rr.toInt) (hus : us = [.int (114 : Int32), .int (101 : Int32), .int (102 : Int32), .int (117 : Int32), .int (115 : Int32), .int (101 : Int32), .int (100 : Int32), .int (32 : Int32), .int (108 : Int32), .int (105 : Int32), .int (110 : Int32), .int (101 : Int32), .int (32 : Int32)] ++ (own_num xl.toInt.natAbs kk ng ++ ([.int (58 : Int32), .int (32 : Int32)] ++ ws))) (hrw : (rr = 0 ∧ ws = []) ∨ (rr = 1 ∧ ws = [.int (own_by c0)]) ∨ (rr = 2 ∧ ws = [.int (own_by c0), .int (own_by c1)])) (hch0 : own_ch (own_by c0) = c0) (hch1 : own_ch (own_by c1) = c1) :
    own_WP p e below (ReturnedEndW s) (fun v h L => v = some (.int 1) ∧ Fr n0 L) 40 3520 (T0.setTop (mkF m 98 #[.val (.long xl), .second, .val (.int i1), .val (.int i2), .val (.int i3), .val (.int rr), .val (.int c0), .val (.int c1), .val (.ref a8), .val (.ref t), .unset, .unset, .unset, .unset, .unset, .unset, .unset] [])) := by
  have hwS := own_wS hw
  have hng : ng = 0 ∨ ng = 1 := hngx.elim (fun q => Or.inr q.2) (fun q => Or.inl q.2)
  have hngt : ng.toInt = 0 ∨ ng.toInt = 1 := hng.elim (fun q => Or.inl (by rw [q]; rfl)) (fun q => Or.inr (by rw [q]; rfl))
  have hk19 := own_dgs_le hkk (by have := rng64 xl; omega)
  have hk1 := hkk.1
  have hr2 : 0 ≤ rr.toInt ∧ rr.toInt ≤ 2 ∧ (ws.length : Int) = rr.toInt := by rcases hrw with ⟨q1, q2⟩ | ⟨q1, q2⟩ | ⟨q1, q2⟩ <;> rw [q1, q2] <;> exact ⟨by decide, by decide, rfl⟩
  have hnl : (own_num xl.toInt.natAbs kk ng).length = kk + ng.toNatClampNeg := own_num_len hng
  have hnn := own_nat (x := ng) (by omega)
  have hul : cn.toInt = (us.length : Int) := by rw [hus, List.length_append, List.length_append, List.length_append, hnl]; simp only [List.length_cons, List.length_nil]; omega
  refine own_lloadN (pc' := 99) X0 hx (hb hby at_98) rfl rfl ?_
  refine own_lconst0 (pc' := 100) X0 hx (hb hby at_99) rfl ?_
  refine own_lcmp (pc' := 101) X0 hx (hb hby at_100) rfl ?_
  refine own_ifl_ge (pt := 108) (pf := 104) X0 hx (hb hby at_101) rfl (by decide) rfl (fun hc101 => ?_) (fun hc101 => ?_)
  · skip
    refine own_iconst (pc' := 109) X0 hx (0 : Int32) (hb hby at_108) rfl rfl ?_
    refine own_istore (pc' := 111) (l' := #[.val (.long xl), .second, .val (.int i1), .val (.int i2), .val (.int i3), .val (.int rr), .val (.int c0), .val (.int c1), .val (.ref a8), .val (.ref t), .val (.int (0 : Int32)), .unset, .unset, .unset, .unset, .unset, .unset]) X0 hx (hb hby at_109) rfl rfl rfl ?_
    refine own_iload (pc' := 113) X0 hx (hb hby at_111) rfl rfl ?_
    refine own_if_eq (pt := 120) (pf := 116) X0 hx (hb hby at_113) rfl (by decide) rfl (fun hc113 => ?_) (fun hc113 => absurd (by decide) hc113)
    refine own_lloadN (pc' := 121) X0 hx (hb hby at_120) rfl rfl ?_
    refine own_lneg (pc' := 122) X0 hx (hb hby at_121) rfl ?_
    obtain ⟨v1, hv1⟩ : ∃ z : Int64, z = (-xl) := ⟨_, rfl⟩
    refine own_lstore (pc' := 124) (l' := #[.val (.long xl), .second, .val (.int i1), .val (.int i2), .val (.int i3), .val (.int rr), .val (.int c0), .val (.int c1), .val (.ref a8), .val (.ref t), .val (.int (0 : Int32)), .val (.long v1), .second, .unset, .unset, .unset, .unset]) X0 hx (hb hby at_122) hv1 rfl rfl ?_
    refine own_lload (pc' := 126) X0 hx (hb hby at_124) rfl rfl ?_
    have hx0 : ¬ xl.toInt < 0 := by rw [Int64.lt_iff_toInt_lt] at hc101; exact hc101
    have hmm : v1.toInt = -(xl.toInt.natAbs : Int) := by rw [own_negJ hv1 (by omega)]; omega
    have hng1 : ng = 0 := hngx.elim (fun q => absurd q.1 hx0) (fun q => q.2)
    have hngi : ng.toInt = 0 := by rw [hng1]; rfl
    refine own_callS (pc' := 129) (W := 0) (y := (⟨"com/example/ossify/ossify/RefusalDescribePinLaw", "countDigits", "(J)I"⟩ : MethodName)) X0 hx hZ hown (own_w hw 176 rfl) (own_w hw 177 rfl) (own_w hw 178 rfl) (own_w hw 179 rfl) (by decide) (con_cdg l Z a0 hw v1 _ _ kk hmm hkk) e0 pd22 [(.long v1)] [] rfl rfl rfl (Nat.le_of_eq rfl) (by decide) (by decide) (by rw [hml]; rfl) (hb hby at_126) (by decide) (by decide) rfl ?_
    intro v2 T2 L2 X2 q2
    obtain ⟨r2, rfl, hr2, rfl, e2⟩ := q2
    have M2 := Fr.nil n0
    have N2 := Fr.app N0 M2
    show own_WP _ _ _ _ _ _ _ (T2.setTop (mkF m 129 #[.val (.long xl), .second, .val (.int i1), .val (.int i2), .val (.int i3), .val (.int rr), .val (.int c0), .val (.int c1), .val (.ref a8), .val (.ref t), .val (.int (0 : Int32)), .val (.long v1), .second, .unset, .unset, .unset, .unset] [(.int r2)]))
    refine own_istore (pc' := 131) (l' := #[.val (.long xl), .second, .val (.int i1), .val (.int i2), .val (.int i3), .val (.int rr), .val (.int c0), .val (.int c1), .val (.ref a8), .val (.ref t), .val (.int (0 : Int32)), .val (.long v1), .second, .val (.int r2), .unset, .unset, .unset]) X2 hx (hb hby at_129) rfl rfl rfl ?_
    refine own_iload (pc' := 133) X2 hx (hb hby at_131) rfl rfl ?_
    refine own_if_eq (pt := 143) (pf := 136) X2 hx (hb hby at_133) rfl (by decide) rfl (fun hc133 => ?_) (fun hc133 => absurd (by decide) hc133)
    refine own_iload (pc' := 145) X2 hx (hb hby at_143) rfl rfl ?_
    refine own_istore (pc' := 147) (l' := #[.val (.long xl), .second, .val (.int i1), .val (.int i2), .val (.int i3), .val (.int rr), .val (.int c0), .val (.int c1), .val (.ref a8), .val (.ref t), .val (.int (0 : Int32)), .val (.long v1), .second, .val (.int r2), .val (.int r2), .unset, .unset]) X2 hx (hb hby at_145) rfl rfl rfl ?_
    have hnl2 : r2.toInt = (kk : Int) + ng.toInt := by rw [hr2]; omega
    refine own_aload (pc' := 149) X2 hx (hb hby at_147) rfl rfl rfl ?_
    refine own_callV (pc' := 152) (W := 0) (y := (⟨"java/lang/String", "length", "()I"⟩ : MethodName)) (z := (⟨"java/lang/String", "length", "()I"⟩ : MethodName)) X2 hx hZ hown (own_w hw 198 rfl) (own_w hw 74 rfl) (notFace_of_selects (args := #[]) (mvT hZ (own_w hw 76 rfl))) (own_w hw 76 rfl) (own_w hw 75 rfl) (own_w hw 3 rfl) (own_w hw 77 rfl) (by decide) hE (con_length l Z a0 hw t _ n0 z0 G1 fm hG O0 tb ktb cn _ hE hC hV hA) e2 pd18 [] [] rfl rfl rfl (Nat.le_of_eq rfl) (by decide) (by decide) (by rw [hml]; rfl) (hb hby at_149) (by decide) (by decide) rfl ?_
    intro v3 T3 L3 X3 q3
    obtain ⟨r3, rfl, hr3, rfl, e3⟩ := q3
    have hr3 := hr3.symm
    subst hr3
    have M3 := Fr.nil n0
    have N3 := Fr.app N2 M3
    show own_WP _ _ _ _ _ _ _ (T3.setTop (mkF m 152 #[.val (.long xl), .second, .val (.int i1), .val (.int i2), .val (.int i3), .val (.int rr), .val (.int c0), .val (.int c1), .val (.ref a8), .val (.ref t), .val (.int (0 : Int32)), .val (.long v1), .second, .val (.int r2), .val (.int r2), .unset, .unset] [(.int cn)]))
    refine own_bipush (pc' := 154) X3 hx (13 : Int32) (hb hby at_152) rfl rfl ?_
    refine own_iload (pc' := 156) X3 hx (hb hby at_154) rfl rfl ?_
    refine own_iadd (pc' := 157) X3 hx (hb hby at_156) rfl ?_
    refine own_iconst (pc' := 158) X3 hx (2 : Int32) (hb hby at_157) rfl rfl ?_
    refine own_iadd (pc' := 159) X3 hx (hb hby at_158) rfl ?_
    refine own_iload (pc' := 161) X3 hx (hb hby at_159) rfl rfl ?_
    refine own_iadd (pc' := 162) X3 hx (hb hby at_161) rfl ?_
    refine own_icmp_eq (pt := 167) (pf := 165) X3 hx (hb hby at_162) rfl (by decide) rfl (fun hc162 => ?_) (fun hc162 => absurd (own_len13 (by omega) (by omega) (by omega)) hc162)
    refine own_aload (pc' := 169) X3 hx (hb hby at_167) rfl rfl rfl ?_
    refine own_callS (pc' := 172) (W := 0) (y := (⟨"com/example/ossify/ossify/RefusalDescribePinLaw", "prefixOk", "(Ljava/lang/String;)Z"⟩ : MethodName)) X3 hx hZ hown (own_w hw 199 rfl) (own_w hw 200 rfl) (own_w hw 178 rfl) (own_w hw 201 rfl) (by decide) (con_px l Z a0 hw t _ n0 z0 G1 fm hG O0 tb ktb cn _ hE hC hV hA _ hus (by omega)) e3 pd34 [(.ref t)] [] rfl rfl rfl (Nat.le_of_eq rfl) (by decide) (by decide) (by rw [hml]; rfl) (hb hby at_169) (by decide) (by decide) rfl ?_
    intro v4 T4 L4 X4 q4
    obtain ⟨r4, rfl, hr4, rfl, e4⟩ := q4
    subst hr4
    have M4 := Fr.nil n0
    have N4 := Fr.app N3 M4
    show own_WP _ _ _ _ _ _ _ (T4.setTop (mkF m 172 #[.val (.long xl), .second, .val (.int i1), .val (.int i2), .val (.int i3), .val (.int rr), .val (.int c0), .val (.int c1), .val (.ref a8), .val (.ref t), .val (.int (0 : Int32)), .val (.long v1), .second, .val (.int r2), .val (.int r2), .unset, .unset] [(.int (1 : Int32))]))
    refine own_if_ne (pt := 177) (pf := 175) X4 hx (hb hby at_172) rfl (by decide) rfl (fun hc172 => ?_) (fun hc172 => absurd hc172 (by decide))
    refine own_iload (pc' := 179) X4 hx (hb hby at_177) rfl rfl ?_
    refine own_if_eq (pt := 196) (pf := 182) X4 hx (hb hby at_179) rfl (by decide) rfl (fun hc179 => ?_) (fun hc179 => absurd (by decide) hc179)
    refine own_bipush (pc' := 198) X4 hx (12 : Int32) (hb hby at_196) rfl rfl ?_
    refine own_iload (pc' := 200) X4 hx (hb hby at_198) rfl rfl ?_
    refine own_iadd (pc' := 201) X4 hx (hb hby at_200) rfl ?_
    obtain ⟨v5, hv5⟩ : ∃ z : Int32, z = ((12 : Int32) + r2) := ⟨_, rfl⟩
    refine own_istore (pc' := 203) (l' := #[.val (.long xl), .second, .val (.int i1), .val (.int i2), .val (.int i3), .val (.int rr), .val (.int c0), .val (.int c1), .val (.ref a8), .val (.ref t), .val (.int (0 : Int32)), .val (.long v1), .second, .val (.int r2), .val (.int r2), .val (.int v5), .unset]) X4 hx (hb hby at_201) hv5 rfl rfl ?_
    have hla0 : v5.toInt = 12 + (kk : Int) + ng.toInt := by rw [own_add hv5 (by decide) (by omega)]; have e1 : (12 : Int32).toInt = 12 := rfl; omega
    have hla : v5.toInt = (([.int (114 : Int32), .int (101 : Int32), .int (102 : Int32), .int (117 : Int32), .int (115 : Int32), .int (101 : Int32), .int (100 : Int32), .int (32 : Int32), .int (108 : Int32), .int (105 : Int32), .int (110 : Int32), .int (101 : Int32), .int (32 : Int32)] : List Value).length : Int) + kk + ng.toInt - 1 := by simp only [List.length_cons, List.length_nil]; omega
    refine own_aload (pc' := 205) X4 hx (hb hby at_203) rfl rfl rfl ?_
    refine own_iload (pc' := 207) X4 hx (hb hby at_205) rfl rfl ?_
    refine own_lload (pc' := 209) X4 hx (hb hby at_207) rfl rfl ?_
    refine own_lconst1 (pc' := 210) X4 hx (hb hby at_209) rfl ?_
    refine own_iconst (pc' := 211) X4 hx (0 : Int32) (hb hby at_210) rfl rfl ?_
    refine own_iload (pc' := 213) X4 hx (hb hby at_211) rfl rfl ?_
    refine own_callS (pc' := 216) (W := 0) (y := (⟨"com/example/ossify/ossify/RefusalDescribePinLaw", "digitOk", "(Ljava/lang/String;IJJII)Z"⟩ : MethodName)) X4 hx hZ hown (own_w hw 224 rfl) (own_w hw 225 rfl) (own_w hw 178 rfl) (own_w hw 226 rfl) (by decide) (con_dg l Z a0 hw t v5 v1 (1 : Int64) (0 : Int32) r2 _ n0 z0 G1 fm hG O0 tb ktb cn _ hE hC hV hA xl.toInt.natAbs 0 hmm rfl (own_dgP hng hus hla (by omega) rfl (by decide) hr2 hul)) e4 pd35 [(.ref t), (.int v5), (.long v1), (.long (1 : Int64)), (.int (0 : Int32)), (.int r2)] [] rfl rfl rfl (Nat.le_of_eq rfl) (by decide) (by decide) (by rw [hml]; rfl) (hb hby at_213) (by decide) (by decide) rfl ?_
    intro v6 T6 L6 X6 q6
    obtain ⟨r6, rfl, hr6, rfl, e6⟩ := q6
    subst hr6
    have M6 := Fr.nil n0
    have N6 := Fr.app N4 M6
    show own_WP _ _ _ _ _ _ _ (T6.setTop (mkF m 216 #[.val (.long xl), .second, .val (.int i1), .val (.int i2), .val (.int i3), .val (.int rr), .val (.int c0), .val (.int c1), .val (.ref a8), .val (.ref t), .val (.int (0 : Int32)), .val (.long v1), .second, .val (.int r2), .val (.int r2), .val (.int v5), .unset] [(.int (1 : Int32))]))
    refine own_if_eq (pt := 560) (pf := 219) X6 hx (hb hby at_216) rfl (by decide) rfl (fun hc216 => absurd hc216 (by decide)) (fun hc216 => ?_)
    refine own_aload (pc' := 221) X6 hx (hb hby at_219) rfl rfl rfl ?_
    refine own_iload (pc' := 223) X6 hx (hb hby at_221) rfl rfl ?_
    refine own_lload (pc' := 225) X6 hx (hb hby at_223) rfl rfl ?_
    refine own_ldc2Long (pc' := 228) X6 hx hZ hown (own_w hw 227 rfl) (hb hby at_225) rfl ?_
    refine own_iconst (pc' := 229) X6 hx (1 : Int32) (hb hby at_228) rfl rfl ?_
    refine own_iload (pc' := 231) X6 hx (hb hby at_229) rfl rfl ?_
    refine own_callS (pc' := 234) (W := 0) (y := (⟨"com/example/ossify/ossify/RefusalDescribePinLaw", "digitOk", "(Ljava/lang/String;IJJII)Z"⟩ : MethodName)) X6 hx hZ hown (own_w hw 224 rfl) (own_w hw 225 rfl) (own_w hw 178 rfl) (own_w hw 226 rfl) (by decide) (con_dg l Z a0 hw t v5 v1 (10 : Int64) (1 : Int32) r2 _ n0 z0 G1 fm hG O0 tb ktb cn _ hE hC hV hA xl.toInt.natAbs 1 hmm rfl (own_dgP hng hus hla (by omega) rfl (by decide) hr2 hul)) e6 pd35 [(.ref t), (.int v5), (.long v1), (.long (10 : Int64)), (.int (1 : Int32)), (.int r2)] [] rfl rfl rfl (Nat.le_of_eq rfl) (by decide) (by decide) (by rw [hml]; rfl) (hb hby at_231) (by decide) (by decide) rfl ?_
    intro v7 T7 L7 X7 q7
    obtain ⟨r7, rfl, hr7, rfl, e7⟩ := q7
    subst hr7
    have M7 := Fr.nil n0
    have N7 := Fr.app N6 M7
    show own_WP _ _ _ _ _ _ _ (T7.setTop (mkF m 234 #[.val (.long xl), .second, .val (.int i1), .val (.int i2), .val (.int i3), .val (.int rr), .val (.int c0), .val (.int c1), .val (.ref a8), .val (.ref t), .val (.int (0 : Int32)), .val (.long v1), .second, .val (.int r2), .val (.int r2), .val (.int v5), .unset] [(.int (1 : Int32))]))
    refine own_if_eq (pt := 560) (pf := 237) X7 hx (hb hby at_234) rfl (by decide) rfl (fun hc234 => absurd hc234 (by decide)) (fun hc234 => ?_)
    refine own_aload (pc' := 239) X7 hx (hb hby at_237) rfl rfl rfl ?_
    refine own_iload (pc' := 241) X7 hx (hb hby at_239) rfl rfl ?_
    refine own_lload (pc' := 243) X7 hx (hb hby at_241) rfl rfl ?_
    refine own_ldc2Long (pc' := 246) X7 hx hZ hown (own_w hw 228 rfl) (hb hby at_243) rfl ?_
    refine own_iconst (pc' := 247) X7 hx (2 : Int32) (hb hby at_246) rfl rfl ?_
    refine own_iload (pc' := 249) X7 hx (hb hby at_247) rfl rfl ?_
    refine own_callS (pc' := 252) (W := 0) (y := (⟨"com/example/ossify/ossify/RefusalDescribePinLaw", "digitOk", "(Ljava/lang/String;IJJII)Z"⟩ : MethodName)) X7 hx hZ hown (own_w hw 224 rfl) (own_w hw 225 rfl) (own_w hw 178 rfl) (own_w hw 226 rfl) (by decide) (con_dg l Z a0 hw t v5 v1 (100 : Int64) (2 : Int32) r2 _ n0 z0 G1 fm hG O0 tb ktb cn _ hE hC hV hA xl.toInt.natAbs 2 hmm rfl (own_dgP hng hus hla (by omega) rfl (by decide) hr2 hul)) e7 pd35 [(.ref t), (.int v5), (.long v1), (.long (100 : Int64)), (.int (2 : Int32)), (.int r2)] [] rfl rfl rfl (Nat.le_of_eq rfl) (by decide) (by decide) (by rw [hml]; rfl) (hb hby at_249) (by decide) (by decide) rfl ?_
    intro v8 T8 L8 X8 q8
    obtain ⟨r8, rfl, hr8, rfl, e8⟩ := q8
    subst hr8
    have M8 := Fr.nil n0
    have N8 := Fr.app N7 M8
    show own_WP _ _ _ _ _ _ _ (T8.setTop (mkF m 252 #[.val (.long xl), .second, .val (.int i1), .val (.int i2), .val (.int i3), .val (.int rr), .val (.int c0), .val (.int c1), .val (.ref a8), .val (.ref t), .val (.int (0 : Int32)), .val (.long v1), .second, .val (.int r2), .val (.int r2), .val (.int v5), .unset] [(.int (1 : Int32))]))
    refine own_if_eq (pt := 560) (pf := 255) X8 hx (hb hby at_252) rfl (by decide) rfl (fun hc252 => absurd hc252 (by decide)) (fun hc252 => ?_)
    refine own_aload (pc' := 257) X8 hx (hb hby at_255) rfl rfl rfl ?_
    refine own_iload (pc' := 259) X8 hx (hb hby at_257) rfl rfl ?_
    refine own_lload (pc' := 261) X8 hx (hb hby at_259) rfl rfl ?_
    refine own_ldc2Long (pc' := 264) X8 hx hZ hown (own_w hw 229 rfl) (hb hby at_261) rfl ?_
    refine own_iconst (pc' := 265) X8 hx (3 : Int32) (hb hby at_264) rfl rfl ?_
    refine own_iload (pc' := 267) X8 hx (hb hby at_265) rfl rfl ?_
    refine own_callS (pc' := 270) (W := 0) (y := (⟨"com/example/ossify/ossify/RefusalDescribePinLaw", "digitOk", "(Ljava/lang/String;IJJII)Z"⟩ : MethodName)) X8 hx hZ hown (own_w hw 224 rfl) (own_w hw 225 rfl) (own_w hw 178 rfl) (own_w hw 226 rfl) (by decide) (con_dg l Z a0 hw t v5 v1 (1000 : Int64) (3 : Int32) r2 _ n0 z0 G1 fm hG O0 tb ktb cn _ hE hC hV hA xl.toInt.natAbs 3 hmm rfl (own_dgP hng hus hla (by omega) rfl (by decide) hr2 hul)) e8 pd35 [(.ref t), (.int v5), (.long v1), (.long (1000 : Int64)), (.int (3 : Int32)), (.int r2)] [] rfl rfl rfl (Nat.le_of_eq rfl) (by decide) (by decide) (by rw [hml]; rfl) (hb hby at_267) (by decide) (by decide) rfl ?_
    intro v9 T9 L9 X9 q9
    obtain ⟨r9, rfl, hr9, rfl, e9⟩ := q9
    subst hr9
    have M9 := Fr.nil n0
    have N9 := Fr.app N8 M9
    show own_WP _ _ _ _ _ _ _ (T9.setTop (mkF m 270 #[.val (.long xl), .second, .val (.int i1), .val (.int i2), .val (.int i3), .val (.int rr), .val (.int c0), .val (.int c1), .val (.ref a8), .val (.ref t), .val (.int (0 : Int32)), .val (.long v1), .second, .val (.int r2), .val (.int r2), .val (.int v5), .unset] [(.int (1 : Int32))]))
    refine own_if_eq (pt := 560) (pf := 273) X9 hx (hb hby at_270) rfl (by decide) rfl (fun hc270 => absurd hc270 (by decide)) (fun hc270 => ?_)
    refine own_aload (pc' := 275) X9 hx (hb hby at_273) rfl rfl rfl ?_
    refine own_iload (pc' := 277) X9 hx (hb hby at_275) rfl rfl ?_
    refine own_lload (pc' := 279) X9 hx (hb hby at_277) rfl rfl ?_
    refine own_ldc2Long (pc' := 282) X9 hx hZ hown (own_w hw 230 rfl) (hb hby at_279) rfl ?_
    refine own_iconst (pc' := 283) X9 hx (4 : Int32) (hb hby at_282) rfl rfl ?_
    refine own_iload (pc' := 285) X9 hx (hb hby at_283) rfl rfl ?_
    refine own_callS (pc' := 288) (W := 0) (y := (⟨"com/example/ossify/ossify/RefusalDescribePinLaw", "digitOk", "(Ljava/lang/String;IJJII)Z"⟩ : MethodName)) X9 hx hZ hown (own_w hw 224 rfl) (own_w hw 225 rfl) (own_w hw 178 rfl) (own_w hw 226 rfl) (by decide) (con_dg l Z a0 hw t v5 v1 (10000 : Int64) (4 : Int32) r2 _ n0 z0 G1 fm hG O0 tb ktb cn _ hE hC hV hA xl.toInt.natAbs 4 hmm rfl (own_dgP hng hus hla (by omega) rfl (by decide) hr2 hul)) e9 pd35 [(.ref t), (.int v5), (.long v1), (.long (10000 : Int64)), (.int (4 : Int32)), (.int r2)] [] rfl rfl rfl (Nat.le_of_eq rfl) (by decide) (by decide) (by rw [hml]; rfl) (hb hby at_285) (by decide) (by decide) rfl ?_
    intro v10 T10 L10 X10 q10
    obtain ⟨r10, rfl, hr10, rfl, e10⟩ := q10
    subst hr10
    have M10 := Fr.nil n0
    have N10 := Fr.app N9 M10
    show own_WP _ _ _ _ _ _ _ (T10.setTop (mkF m 288 #[.val (.long xl), .second, .val (.int i1), .val (.int i2), .val (.int i3), .val (.int rr), .val (.int c0), .val (.int c1), .val (.ref a8), .val (.ref t), .val (.int (0 : Int32)), .val (.long v1), .second, .val (.int r2), .val (.int r2), .val (.int v5), .unset] [(.int (1 : Int32))]))
    refine own_if_eq (pt := 560) (pf := 291) X10 hx (hb hby at_288) rfl (by decide) rfl (fun hc288 => absurd hc288 (by decide)) (fun hc288 => ?_)
    refine own_aload (pc' := 293) X10 hx (hb hby at_291) rfl rfl rfl ?_
    refine own_iload (pc' := 295) X10 hx (hb hby at_293) rfl rfl ?_
    refine own_lload (pc' := 297) X10 hx (hb hby at_295) rfl rfl ?_
    refine own_ldc2Long (pc' := 300) X10 hx hZ hown (own_w hw 231 rfl) (hb hby at_297) rfl ?_
    refine own_iconst (pc' := 301) X10 hx (5 : Int32) (hb hby at_300) rfl rfl ?_
    refine own_iload (pc' := 303) X10 hx (hb hby at_301) rfl rfl ?_
    refine own_callS (pc' := 306) (W := 0) (y := (⟨"com/example/ossify/ossify/RefusalDescribePinLaw", "digitOk", "(Ljava/lang/String;IJJII)Z"⟩ : MethodName)) X10 hx hZ hown (own_w hw 224 rfl) (own_w hw 225 rfl) (own_w hw 178 rfl) (own_w hw 226 rfl) (by decide) (con_dg l Z a0 hw t v5 v1 (100000 : Int64) (5 : Int32) r2 _ n0 z0 G1 fm hG O0 tb ktb cn _ hE hC hV hA xl.toInt.natAbs 5 hmm rfl (own_dgP hng hus hla (by omega) rfl (by decide) hr2 hul)) e10 pd35 [(.ref t), (.int v5), (.long v1), (.long (100000 : Int64)), (.int (5 : Int32)), (.int r2)] [] rfl rfl rfl (Nat.le_of_eq rfl) (by decide) (by decide) (by rw [hml]; rfl) (hb hby at_303) (by decide) (by decide) rfl ?_
    intro v11 T11 L11 X11 q11
    obtain ⟨r11, rfl, hr11, rfl, e11⟩ := q11
    subst hr11
    have M11 := Fr.nil n0
    have N11 := Fr.app N10 M11
    show own_WP _ _ _ _ _ _ _ (T11.setTop (mkF m 306 #[.val (.long xl), .second, .val (.int i1), .val (.int i2), .val (.int i3), .val (.int rr), .val (.int c0), .val (.int c1), .val (.ref a8), .val (.ref t), .val (.int (0 : Int32)), .val (.long v1), .second, .val (.int r2), .val (.int r2), .val (.int v5), .unset] [(.int (1 : Int32))]))
    refine own_if_eq (pt := 560) (pf := 309) X11 hx (hb hby at_306) rfl (by decide) rfl (fun hc306 => absurd hc306 (by decide)) (fun hc306 => ?_)
    refine own_aload (pc' := 311) X11 hx (hb hby at_309) rfl rfl rfl ?_
    refine own_iload (pc' := 313) X11 hx (hb hby at_311) rfl rfl ?_
    refine own_lload (pc' := 315) X11 hx (hb hby at_313) rfl rfl ?_
    refine own_ldc2Long (pc' := 318) X11 hx hZ hown (own_w hw 232 rfl) (hb hby at_315) rfl ?_
    refine own_bipush (pc' := 320) X11 hx (6 : Int32) (hb hby at_318) rfl rfl ?_
    refine own_iload (pc' := 322) X11 hx (hb hby at_320) rfl rfl ?_
    refine own_callS (pc' := 325) (W := 0) (y := (⟨"com/example/ossify/ossify/RefusalDescribePinLaw", "digitOk", "(Ljava/lang/String;IJJII)Z"⟩ : MethodName)) X11 hx hZ hown (own_w hw 224 rfl) (own_w hw 225 rfl) (own_w hw 178 rfl) (own_w hw 226 rfl) (by decide) (con_dg l Z a0 hw t v5 v1 (1000000 : Int64) (6 : Int32) r2 _ n0 z0 G1 fm hG O0 tb ktb cn _ hE hC hV hA xl.toInt.natAbs 6 hmm rfl (own_dgP hng hus hla (by omega) rfl (by decide) hr2 hul)) e11 pd35 [(.ref t), (.int v5), (.long v1), (.long (1000000 : Int64)), (.int (6 : Int32)), (.int r2)] [] rfl rfl rfl (Nat.le_of_eq rfl) (by decide) (by decide) (by rw [hml]; rfl) (hb hby at_322) (by decide) (by decide) rfl ?_
    intro v12 T12 L12 X12 q12
    obtain ⟨r12, rfl, hr12, rfl, e12⟩ := q12
    subst hr12
    have M12 := Fr.nil n0
    have N12 := Fr.app N11 M12
    show own_WP _ _ _ _ _ _ _ (T12.setTop (mkF m 325 #[.val (.long xl), .second, .val (.int i1), .val (.int i2), .val (.int i3), .val (.int rr), .val (.int c0), .val (.int c1), .val (.ref a8), .val (.ref t), .val (.int (0 : Int32)), .val (.long v1), .second, .val (.int r2), .val (.int r2), .val (.int v5), .unset] [(.int (1 : Int32))]))
    refine own_if_eq (pt := 560) (pf := 328) X12 hx (hb hby at_325) rfl (by decide) rfl (fun hc325 => absurd hc325 (by decide)) (fun hc325 => ?_)
    refine own_aload (pc' := 330) X12 hx (hb hby at_328) rfl rfl rfl ?_
    refine own_iload (pc' := 332) X12 hx (hb hby at_330) rfl rfl ?_
    refine own_lload (pc' := 334) X12 hx (hb hby at_332) rfl rfl ?_
    refine own_ldc2Long (pc' := 337) X12 hx hZ hown (own_w hw 233 rfl) (hb hby at_334) rfl ?_
    refine own_bipush (pc' := 339) X12 hx (7 : Int32) (hb hby at_337) rfl rfl ?_
    refine own_iload (pc' := 341) X12 hx (hb hby at_339) rfl rfl ?_
    refine own_callS (pc' := 344) (W := 0) (y := (⟨"com/example/ossify/ossify/RefusalDescribePinLaw", "digitOk", "(Ljava/lang/String;IJJII)Z"⟩ : MethodName)) X12 hx hZ hown (own_w hw 224 rfl) (own_w hw 225 rfl) (own_w hw 178 rfl) (own_w hw 226 rfl) (by decide) (con_dg l Z a0 hw t v5 v1 (10000000 : Int64) (7 : Int32) r2 _ n0 z0 G1 fm hG O0 tb ktb cn _ hE hC hV hA xl.toInt.natAbs 7 hmm rfl (own_dgP hng hus hla (by omega) rfl (by decide) hr2 hul)) e12 pd35 [(.ref t), (.int v5), (.long v1), (.long (10000000 : Int64)), (.int (7 : Int32)), (.int r2)] [] rfl rfl rfl (Nat.le_of_eq rfl) (by decide) (by decide) (by rw [hml]; rfl) (hb hby at_341) (by decide) (by decide) rfl ?_
    intro v13 T13 L13 X13 q13
    obtain ⟨r13, rfl, hr13, rfl, e13⟩ := q13
    subst hr13
    have M13 := Fr.nil n0
    have N13 := Fr.app N12 M13
    show own_WP _ _ _ _ _ _ _ (T13.setTop (mkF m 344 #[.val (.long xl), .second, .val (.int i1), .val (.int i2), .val (.int i3), .val (.int rr), .val (.int c0), .val (.int c1), .val (.ref a8), .val (.ref t), .val (.int (0 : Int32)), .val (.long v1), .second, .val (.int r2), .val (.int r2), .val (.int v5), .unset] [(.int (1 : Int32))]))
    refine own_if_eq (pt := 560) (pf := 347) X13 hx (hb hby at_344) rfl (by decide) rfl (fun hc344 => absurd hc344 (by decide)) (fun hc344 => ?_)
    refine own_aload (pc' := 349) X13 hx (hb hby at_347) rfl rfl rfl ?_
    refine own_iload (pc' := 351) X13 hx (hb hby at_349) rfl rfl ?_
    refine own_lload (pc' := 353) X13 hx (hb hby at_351) rfl rfl ?_
    refine own_ldc2Long (pc' := 356) X13 hx hZ hown (own_w hw 234 rfl) (hb hby at_353) rfl ?_
    refine own_bipush (pc' := 358) X13 hx (8 : Int32) (hb hby at_356) rfl rfl ?_
    refine own_iload (pc' := 360) X13 hx (hb hby at_358) rfl rfl ?_
    refine own_callS (pc' := 363) (W := 0) (y := (⟨"com/example/ossify/ossify/RefusalDescribePinLaw", "digitOk", "(Ljava/lang/String;IJJII)Z"⟩ : MethodName)) X13 hx hZ hown (own_w hw 224 rfl) (own_w hw 225 rfl) (own_w hw 178 rfl) (own_w hw 226 rfl) (by decide) (con_dg l Z a0 hw t v5 v1 (100000000 : Int64) (8 : Int32) r2 _ n0 z0 G1 fm hG O0 tb ktb cn _ hE hC hV hA xl.toInt.natAbs 8 hmm rfl (own_dgP hng hus hla (by omega) rfl (by decide) hr2 hul)) e13 pd35 [(.ref t), (.int v5), (.long v1), (.long (100000000 : Int64)), (.int (8 : Int32)), (.int r2)] [] rfl rfl rfl (Nat.le_of_eq rfl) (by decide) (by decide) (by rw [hml]; rfl) (hb hby at_360) (by decide) (by decide) rfl ?_
    intro v14 T14 L14 X14 q14
    obtain ⟨r14, rfl, hr14, rfl, e14⟩ := q14
    subst hr14
    have M14 := Fr.nil n0
    have N14 := Fr.app N13 M14
    show own_WP _ _ _ _ _ _ _ (T14.setTop (mkF m 363 #[.val (.long xl), .second, .val (.int i1), .val (.int i2), .val (.int i3), .val (.int rr), .val (.int c0), .val (.int c1), .val (.ref a8), .val (.ref t), .val (.int (0 : Int32)), .val (.long v1), .second, .val (.int r2), .val (.int r2), .val (.int v5), .unset] [(.int (1 : Int32))]))
    refine own_if_eq (pt := 560) (pf := 366) X14 hx (hb hby at_363) rfl (by decide) rfl (fun hc363 => absurd hc363 (by decide)) (fun hc363 => ?_)
    refine own_aload (pc' := 368) X14 hx (hb hby at_366) rfl rfl rfl ?_
    refine own_iload (pc' := 370) X14 hx (hb hby at_368) rfl rfl ?_
    refine own_lload (pc' := 372) X14 hx (hb hby at_370) rfl rfl ?_
    refine own_ldc2Long (pc' := 375) X14 hx hZ hown (own_w hw 235 rfl) (hb hby at_372) rfl ?_
    refine own_bipush (pc' := 377) X14 hx (9 : Int32) (hb hby at_375) rfl rfl ?_
    refine own_iload (pc' := 379) X14 hx (hb hby at_377) rfl rfl ?_
    refine own_callS (pc' := 382) (W := 0) (y := (⟨"com/example/ossify/ossify/RefusalDescribePinLaw", "digitOk", "(Ljava/lang/String;IJJII)Z"⟩ : MethodName)) X14 hx hZ hown (own_w hw 224 rfl) (own_w hw 225 rfl) (own_w hw 178 rfl) (own_w hw 226 rfl) (by decide) (con_dg l Z a0 hw t v5 v1 (1000000000 : Int64) (9 : Int32) r2 _ n0 z0 G1 fm hG O0 tb ktb cn _ hE hC hV hA xl.toInt.natAbs 9 hmm rfl (own_dgP hng hus hla (by omega) rfl (by decide) hr2 hul)) e14 pd35 [(.ref t), (.int v5), (.long v1), (.long (1000000000 : Int64)), (.int (9 : Int32)), (.int r2)] [] rfl rfl rfl (Nat.le_of_eq rfl) (by decide) (by decide) (by rw [hml]; rfl) (hb hby at_379) (by decide) (by decide) rfl ?_
    intro v15 T15 L15 X15 q15
    obtain ⟨r15, rfl, hr15, rfl, e15⟩ := q15
    subst hr15
    have M15 := Fr.nil n0
    have N15 := Fr.app N14 M15
    show own_WP _ _ _ _ _ _ _ (T15.setTop (mkF m 382 #[.val (.long xl), .second, .val (.int i1), .val (.int i2), .val (.int i3), .val (.int rr), .val (.int c0), .val (.int c1), .val (.ref a8), .val (.ref t), .val (.int (0 : Int32)), .val (.long v1), .second, .val (.int r2), .val (.int r2), .val (.int v5), .unset] [(.int (1 : Int32))]))
    refine own_if_eq (pt := 560) (pf := 385) X15 hx (hb hby at_382) rfl (by decide) rfl (fun hc382 => absurd hc382 (by decide)) (fun hc382 => ?_)
    refine own_aload (pc' := 387) X15 hx (hb hby at_385) rfl rfl rfl ?_
    refine own_iload (pc' := 389) X15 hx (hb hby at_387) rfl rfl ?_
    refine own_lload (pc' := 391) X15 hx (hb hby at_389) rfl rfl ?_
    refine own_ldc2Long (pc' := 394) X15 hx hZ hown (own_w hw 236 rfl) (hb hby at_391) rfl ?_
    refine own_bipush (pc' := 396) X15 hx (10 : Int32) (hb hby at_394) rfl rfl ?_
    refine own_iload (pc' := 398) X15 hx (hb hby at_396) rfl rfl ?_
    refine own_callS (pc' := 401) (W := 0) (y := (⟨"com/example/ossify/ossify/RefusalDescribePinLaw", "digitOk", "(Ljava/lang/String;IJJII)Z"⟩ : MethodName)) X15 hx hZ hown (own_w hw 224 rfl) (own_w hw 225 rfl) (own_w hw 178 rfl) (own_w hw 226 rfl) (by decide) (con_dg l Z a0 hw t v5 v1 (10000000000 : Int64) (10 : Int32) r2 _ n0 z0 G1 fm hG O0 tb ktb cn _ hE hC hV hA xl.toInt.natAbs 10 hmm rfl (own_dgP hng hus hla (by omega) rfl (by decide) hr2 hul)) e15 pd35 [(.ref t), (.int v5), (.long v1), (.long (10000000000 : Int64)), (.int (10 : Int32)), (.int r2)] [] rfl rfl rfl (Nat.le_of_eq rfl) (by decide) (by decide) (by rw [hml]; rfl) (hb hby at_398) (by decide) (by decide) rfl ?_
    intro v16 T16 L16 X16 q16
    obtain ⟨r16, rfl, hr16, rfl, e16⟩ := q16
    subst hr16
    have M16 := Fr.nil n0
    have N16 := Fr.app N15 M16
    show own_WP _ _ _ _ _ _ _ (T16.setTop (mkF m 401 #[.val (.long xl), .second, .val (.int i1), .val (.int i2), .val (.int i3), .val (.int rr), .val (.int c0), .val (.int c1), .val (.ref a8), .val (.ref t), .val (.int (0 : Int32)), .val (.long v1), .second, .val (.int r2), .val (.int r2), .val (.int v5), .unset] [(.int (1 : Int32))]))
    refine own_if_eq (pt := 560) (pf := 404) X16 hx (hb hby at_401) rfl (by decide) rfl (fun hc401 => absurd hc401 (by decide)) (fun hc401 => ?_)
    refine own_aload (pc' := 406) X16 hx (hb hby at_404) rfl rfl rfl ?_
    refine own_iload (pc' := 408) X16 hx (hb hby at_406) rfl rfl ?_
    refine own_lload (pc' := 410) X16 hx (hb hby at_408) rfl rfl ?_
    refine own_ldc2Long (pc' := 413) X16 hx hZ hown (own_w hw 237 rfl) (hb hby at_410) rfl ?_
    refine own_bipush (pc' := 415) X16 hx (11 : Int32) (hb hby at_413) rfl rfl ?_
    refine own_iload (pc' := 417) X16 hx (hb hby at_415) rfl rfl ?_
    refine own_callS (pc' := 420) (W := 0) (y := (⟨"com/example/ossify/ossify/RefusalDescribePinLaw", "digitOk", "(Ljava/lang/String;IJJII)Z"⟩ : MethodName)) X16 hx hZ hown (own_w hw 224 rfl) (own_w hw 225 rfl) (own_w hw 178 rfl) (own_w hw 226 rfl) (by decide) (con_dg l Z a0 hw t v5 v1 (100000000000 : Int64) (11 : Int32) r2 _ n0 z0 G1 fm hG O0 tb ktb cn _ hE hC hV hA xl.toInt.natAbs 11 hmm rfl (own_dgP hng hus hla (by omega) rfl (by decide) hr2 hul)) e16 pd35 [(.ref t), (.int v5), (.long v1), (.long (100000000000 : Int64)), (.int (11 : Int32)), (.int r2)] [] rfl rfl rfl (Nat.le_of_eq rfl) (by decide) (by decide) (by rw [hml]; rfl) (hb hby at_417) (by decide) (by decide) rfl ?_
    intro v17 T17 L17 X17 q17
    obtain ⟨r17, rfl, hr17, rfl, e17⟩ := q17
    subst hr17
    have M17 := Fr.nil n0
    have N17 := Fr.app N16 M17
    show own_WP _ _ _ _ _ _ _ (T17.setTop (mkF m 420 #[.val (.long xl), .second, .val (.int i1), .val (.int i2), .val (.int i3), .val (.int rr), .val (.int c0), .val (.int c1), .val (.ref a8), .val (.ref t), .val (.int (0 : Int32)), .val (.long v1), .second, .val (.int r2), .val (.int r2), .val (.int v5), .unset] [(.int (1 : Int32))]))
    refine own_if_eq (pt := 560) (pf := 423) X17 hx (hb hby at_420) rfl (by decide) rfl (fun hc420 => absurd hc420 (by decide)) (fun hc420 => ?_)
    refine own_aload (pc' := 425) X17 hx (hb hby at_423) rfl rfl rfl ?_
    refine own_iload (pc' := 427) X17 hx (hb hby at_425) rfl rfl ?_
    refine own_lload (pc' := 429) X17 hx (hb hby at_427) rfl rfl ?_
    refine own_ldc2Long (pc' := 432) X17 hx hZ hown (own_w hw 238 rfl) (hb hby at_429) rfl ?_
    refine own_bipush (pc' := 434) X17 hx (12 : Int32) (hb hby at_432) rfl rfl ?_
    refine own_iload (pc' := 436) X17 hx (hb hby at_434) rfl rfl ?_
    refine own_callS (pc' := 439) (W := 0) (y := (⟨"com/example/ossify/ossify/RefusalDescribePinLaw", "digitOk", "(Ljava/lang/String;IJJII)Z"⟩ : MethodName)) X17 hx hZ hown (own_w hw 224 rfl) (own_w hw 225 rfl) (own_w hw 178 rfl) (own_w hw 226 rfl) (by decide) (con_dg l Z a0 hw t v5 v1 (1000000000000 : Int64) (12 : Int32) r2 _ n0 z0 G1 fm hG O0 tb ktb cn _ hE hC hV hA xl.toInt.natAbs 12 hmm rfl (own_dgP hng hus hla (by omega) rfl (by decide) hr2 hul)) e17 pd35 [(.ref t), (.int v5), (.long v1), (.long (1000000000000 : Int64)), (.int (12 : Int32)), (.int r2)] [] rfl rfl rfl (Nat.le_of_eq rfl) (by decide) (by decide) (by rw [hml]; rfl) (hb hby at_436) (by decide) (by decide) rfl ?_
    intro v18 T18 L18 X18 q18
    obtain ⟨r18, rfl, hr18, rfl, e18⟩ := q18
    subst hr18
    have M18 := Fr.nil n0
    have N18 := Fr.app N17 M18
    show own_WP _ _ _ _ _ _ _ (T18.setTop (mkF m 439 #[.val (.long xl), .second, .val (.int i1), .val (.int i2), .val (.int i3), .val (.int rr), .val (.int c0), .val (.int c1), .val (.ref a8), .val (.ref t), .val (.int (0 : Int32)), .val (.long v1), .second, .val (.int r2), .val (.int r2), .val (.int v5), .unset] [(.int (1 : Int32))]))
    refine own_if_eq (pt := 560) (pf := 442) X18 hx (hb hby at_439) rfl (by decide) rfl (fun hc439 => absurd hc439 (by decide)) (fun hc439 => ?_)
    refine own_aload (pc' := 444) X18 hx (hb hby at_442) rfl rfl rfl ?_
    refine own_iload (pc' := 446) X18 hx (hb hby at_444) rfl rfl ?_
    refine own_lload (pc' := 448) X18 hx (hb hby at_446) rfl rfl ?_
    refine own_ldc2Long (pc' := 451) X18 hx hZ hown (own_w hw 239 rfl) (hb hby at_448) rfl ?_
    refine own_bipush (pc' := 453) X18 hx (13 : Int32) (hb hby at_451) rfl rfl ?_
    refine own_iload (pc' := 455) X18 hx (hb hby at_453) rfl rfl ?_
    refine own_callS (pc' := 458) (W := 0) (y := (⟨"com/example/ossify/ossify/RefusalDescribePinLaw", "digitOk", "(Ljava/lang/String;IJJII)Z"⟩ : MethodName)) X18 hx hZ hown (own_w hw 224 rfl) (own_w hw 225 rfl) (own_w hw 178 rfl) (own_w hw 226 rfl) (by decide) (con_dg l Z a0 hw t v5 v1 (10000000000000 : Int64) (13 : Int32) r2 _ n0 z0 G1 fm hG O0 tb ktb cn _ hE hC hV hA xl.toInt.natAbs 13 hmm rfl (own_dgP hng hus hla (by omega) rfl (by decide) hr2 hul)) e18 pd35 [(.ref t), (.int v5), (.long v1), (.long (10000000000000 : Int64)), (.int (13 : Int32)), (.int r2)] [] rfl rfl rfl (Nat.le_of_eq rfl) (by decide) (by decide) (by rw [hml]; rfl) (hb hby at_455) (by decide) (by decide) rfl ?_
    intro v19 T19 L19 X19 q19
    obtain ⟨r19, rfl, hr19, rfl, e19⟩ := q19
    subst hr19
    have M19 := Fr.nil n0
    have N19 := Fr.app N18 M19
    show own_WP _ _ _ _ _ _ _ (T19.setTop (mkF m 458 #[.val (.long xl), .second, .val (.int i1), .val (.int i2), .val (.int i3), .val (.int rr), .val (.int c0), .val (.int c1), .val (.ref a8), .val (.ref t), .val (.int (0 : Int32)), .val (.long v1), .second, .val (.int r2), .val (.int r2), .val (.int v5), .unset] [(.int (1 : Int32))]))
    refine own_if_eq (pt := 560) (pf := 461) X19 hx (hb hby at_458) rfl (by decide) rfl (fun hc458 => absurd hc458 (by decide)) (fun hc458 => ?_)
    refine own_aload (pc' := 463) X19 hx (hb hby at_461) rfl rfl rfl ?_
    refine own_iload (pc' := 465) X19 hx (hb hby at_463) rfl rfl ?_
    refine own_lload (pc' := 467) X19 hx (hb hby at_465) rfl rfl ?_
    refine own_ldc2Long (pc' := 470) X19 hx hZ hown (own_w hw 240 rfl) (hb hby at_467) rfl ?_
    refine own_bipush (pc' := 472) X19 hx (14 : Int32) (hb hby at_470) rfl rfl ?_
    refine own_iload (pc' := 474) X19 hx (hb hby at_472) rfl rfl ?_
    refine own_callS (pc' := 477) (W := 0) (y := (⟨"com/example/ossify/ossify/RefusalDescribePinLaw", "digitOk", "(Ljava/lang/String;IJJII)Z"⟩ : MethodName)) X19 hx hZ hown (own_w hw 224 rfl) (own_w hw 225 rfl) (own_w hw 178 rfl) (own_w hw 226 rfl) (by decide) (con_dg l Z a0 hw t v5 v1 (100000000000000 : Int64) (14 : Int32) r2 _ n0 z0 G1 fm hG O0 tb ktb cn _ hE hC hV hA xl.toInt.natAbs 14 hmm rfl (own_dgP hng hus hla (by omega) rfl (by decide) hr2 hul)) e19 pd35 [(.ref t), (.int v5), (.long v1), (.long (100000000000000 : Int64)), (.int (14 : Int32)), (.int r2)] [] rfl rfl rfl (Nat.le_of_eq rfl) (by decide) (by decide) (by rw [hml]; rfl) (hb hby at_474) (by decide) (by decide) rfl ?_
    intro v20 T20 L20 X20 q20
    obtain ⟨r20, rfl, hr20, rfl, e20⟩ := q20
    subst hr20
    have M20 := Fr.nil n0
    have N20 := Fr.app N19 M20
    show own_WP _ _ _ _ _ _ _ (T20.setTop (mkF m 477 #[.val (.long xl), .second, .val (.int i1), .val (.int i2), .val (.int i3), .val (.int rr), .val (.int c0), .val (.int c1), .val (.ref a8), .val (.ref t), .val (.int (0 : Int32)), .val (.long v1), .second, .val (.int r2), .val (.int r2), .val (.int v5), .unset] [(.int (1 : Int32))]))
    refine own_if_eq (pt := 560) (pf := 480) X20 hx (hb hby at_477) rfl (by decide) rfl (fun hc477 => absurd hc477 (by decide)) (fun hc477 => ?_)
    refine own_aload (pc' := 482) X20 hx (hb hby at_480) rfl rfl rfl ?_
    refine own_iload (pc' := 484) X20 hx (hb hby at_482) rfl rfl ?_
    refine own_lload (pc' := 486) X20 hx (hb hby at_484) rfl rfl ?_
    refine own_ldc2Long (pc' := 489) X20 hx hZ hown (own_w hw 241 rfl) (hb hby at_486) rfl ?_
    refine own_bipush (pc' := 491) X20 hx (15 : Int32) (hb hby at_489) rfl rfl ?_
    refine own_iload (pc' := 493) X20 hx (hb hby at_491) rfl rfl ?_
    refine own_callS (pc' := 496) (W := 0) (y := (⟨"com/example/ossify/ossify/RefusalDescribePinLaw", "digitOk", "(Ljava/lang/String;IJJII)Z"⟩ : MethodName)) X20 hx hZ hown (own_w hw 224 rfl) (own_w hw 225 rfl) (own_w hw 178 rfl) (own_w hw 226 rfl) (by decide) (con_dg l Z a0 hw t v5 v1 (1000000000000000 : Int64) (15 : Int32) r2 _ n0 z0 G1 fm hG O0 tb ktb cn _ hE hC hV hA xl.toInt.natAbs 15 hmm rfl (own_dgP hng hus hla (by omega) rfl (by decide) hr2 hul)) e20 pd35 [(.ref t), (.int v5), (.long v1), (.long (1000000000000000 : Int64)), (.int (15 : Int32)), (.int r2)] [] rfl rfl rfl (Nat.le_of_eq rfl) (by decide) (by decide) (by rw [hml]; rfl) (hb hby at_493) (by decide) (by decide) rfl ?_
    intro v21 T21 L21 X21 q21
    obtain ⟨r21, rfl, hr21, rfl, e21⟩ := q21
    subst hr21
    have M21 := Fr.nil n0
    have N21 := Fr.app N20 M21
    show own_WP _ _ _ _ _ _ _ (T21.setTop (mkF m 496 #[.val (.long xl), .second, .val (.int i1), .val (.int i2), .val (.int i3), .val (.int rr), .val (.int c0), .val (.int c1), .val (.ref a8), .val (.ref t), .val (.int (0 : Int32)), .val (.long v1), .second, .val (.int r2), .val (.int r2), .val (.int v5), .unset] [(.int (1 : Int32))]))
    refine own_if_eq (pt := 560) (pf := 499) X21 hx (hb hby at_496) rfl (by decide) rfl (fun hc496 => absurd hc496 (by decide)) (fun hc496 => ?_)
    refine own_aload (pc' := 501) X21 hx (hb hby at_499) rfl rfl rfl ?_
    refine own_iload (pc' := 503) X21 hx (hb hby at_501) rfl rfl ?_
    refine own_lload (pc' := 505) X21 hx (hb hby at_503) rfl rfl ?_
    refine own_ldc2Long (pc' := 508) X21 hx hZ hown (own_w hw 242 rfl) (hb hby at_505) rfl ?_
    refine own_bipush (pc' := 510) X21 hx (16 : Int32) (hb hby at_508) rfl rfl ?_
    refine own_iload (pc' := 512) X21 hx (hb hby at_510) rfl rfl ?_
    refine own_callS (pc' := 515) (W := 0) (y := (⟨"com/example/ossify/ossify/RefusalDescribePinLaw", "digitOk", "(Ljava/lang/String;IJJII)Z"⟩ : MethodName)) X21 hx hZ hown (own_w hw 224 rfl) (own_w hw 225 rfl) (own_w hw 178 rfl) (own_w hw 226 rfl) (by decide) (con_dg l Z a0 hw t v5 v1 (10000000000000000 : Int64) (16 : Int32) r2 _ n0 z0 G1 fm hG O0 tb ktb cn _ hE hC hV hA xl.toInt.natAbs 16 hmm rfl (own_dgP hng hus hla (by omega) rfl (by decide) hr2 hul)) e21 pd35 [(.ref t), (.int v5), (.long v1), (.long (10000000000000000 : Int64)), (.int (16 : Int32)), (.int r2)] [] rfl rfl rfl (Nat.le_of_eq rfl) (by decide) (by decide) (by rw [hml]; rfl) (hb hby at_512) (by decide) (by decide) rfl ?_
    intro v22 T22 L22 X22 q22
    obtain ⟨r22, rfl, hr22, rfl, e22⟩ := q22
    subst hr22
    have M22 := Fr.nil n0
    have N22 := Fr.app N21 M22
    show own_WP _ _ _ _ _ _ _ (T22.setTop (mkF m 515 #[.val (.long xl), .second, .val (.int i1), .val (.int i2), .val (.int i3), .val (.int rr), .val (.int c0), .val (.int c1), .val (.ref a8), .val (.ref t), .val (.int (0 : Int32)), .val (.long v1), .second, .val (.int r2), .val (.int r2), .val (.int v5), .unset] [(.int (1 : Int32))]))
    refine own_if_eq (pt := 560) (pf := 518) X22 hx (hb hby at_515) rfl (by decide) rfl (fun hc515 => absurd hc515 (by decide)) (fun hc515 => ?_)
    refine own_aload (pc' := 520) X22 hx (hb hby at_518) rfl rfl rfl ?_
    refine own_iload (pc' := 522) X22 hx (hb hby at_520) rfl rfl ?_
    refine own_lload (pc' := 524) X22 hx (hb hby at_522) rfl rfl ?_
    refine own_ldc2Long (pc' := 527) X22 hx hZ hown (own_w hw 243 rfl) (hb hby at_524) rfl ?_
    refine own_bipush (pc' := 529) X22 hx (17 : Int32) (hb hby at_527) rfl rfl ?_
    refine own_iload (pc' := 531) X22 hx (hb hby at_529) rfl rfl ?_
    refine own_callS (pc' := 534) (W := 0) (y := (⟨"com/example/ossify/ossify/RefusalDescribePinLaw", "digitOk", "(Ljava/lang/String;IJJII)Z"⟩ : MethodName)) X22 hx hZ hown (own_w hw 224 rfl) (own_w hw 225 rfl) (own_w hw 178 rfl) (own_w hw 226 rfl) (by decide) (con_dg l Z a0 hw t v5 v1 (100000000000000000 : Int64) (17 : Int32) r2 _ n0 z0 G1 fm hG O0 tb ktb cn _ hE hC hV hA xl.toInt.natAbs 17 hmm rfl (own_dgP hng hus hla (by omega) rfl (by decide) hr2 hul)) e22 pd35 [(.ref t), (.int v5), (.long v1), (.long (100000000000000000 : Int64)), (.int (17 : Int32)), (.int r2)] [] rfl rfl rfl (Nat.le_of_eq rfl) (by decide) (by decide) (by rw [hml]; rfl) (hb hby at_531) (by decide) (by decide) rfl ?_
    intro v23 T23 L23 X23 q23
    obtain ⟨r23, rfl, hr23, rfl, e23⟩ := q23
    subst hr23
    have M23 := Fr.nil n0
    have N23 := Fr.app N22 M23
    show own_WP _ _ _ _ _ _ _ (T23.setTop (mkF m 534 #[.val (.long xl), .second, .val (.int i1), .val (.int i2), .val (.int i3), .val (.int rr), .val (.int c0), .val (.int c1), .val (.ref a8), .val (.ref t), .val (.int (0 : Int32)), .val (.long v1), .second, .val (.int r2), .val (.int r2), .val (.int v5), .unset] [(.int (1 : Int32))]))
    refine own_if_eq (pt := 560) (pf := 537) X23 hx (hb hby at_534) rfl (by decide) rfl (fun hc534 => absurd hc534 (by decide)) (fun hc534 => ?_)
    refine own_aload (pc' := 539) X23 hx (hb hby at_537) rfl rfl rfl ?_
    refine own_iload (pc' := 541) X23 hx (hb hby at_539) rfl rfl ?_
    refine own_lload (pc' := 543) X23 hx (hb hby at_541) rfl rfl ?_
    refine own_ldc2Long (pc' := 546) X23 hx hZ hown (own_w hw 244 rfl) (hb hby at_543) rfl ?_
    refine own_bipush (pc' := 548) X23 hx (18 : Int32) (hb hby at_546) rfl rfl ?_
    refine own_iload (pc' := 550) X23 hx (hb hby at_548) rfl rfl ?_
    refine own_callS (pc' := 553) (W := 0) (y := (⟨"com/example/ossify/ossify/RefusalDescribePinLaw", "digitOk", "(Ljava/lang/String;IJJII)Z"⟩ : MethodName)) X23 hx hZ hown (own_w hw 224 rfl) (own_w hw 225 rfl) (own_w hw 178 rfl) (own_w hw 226 rfl) (by decide) (con_dg l Z a0 hw t v5 v1 (1000000000000000000 : Int64) (18 : Int32) r2 _ n0 z0 G1 fm hG O0 tb ktb cn _ hE hC hV hA xl.toInt.natAbs 18 hmm rfl (own_dgP hng hus hla (by omega) rfl (by decide) hr2 hul)) e23 pd35 [(.ref t), (.int v5), (.long v1), (.long (1000000000000000000 : Int64)), (.int (18 : Int32)), (.int r2)] [] rfl rfl rfl (Nat.le_of_eq rfl) (by decide) (by decide) (by rw [hml]; rfl) (hb hby at_550) (by decide) (by decide) rfl ?_
    intro v24 T24 L24 X24 q24
    obtain ⟨r24, rfl, hr24, rfl, e24⟩ := q24
    subst hr24
    have M24 := Fr.nil n0
    have N24 := Fr.app N23 M24
    show own_WP _ _ _ _ _ _ _ (T24.setTop (mkF m 553 #[.val (.long xl), .second, .val (.int i1), .val (.int i2), .val (.int i3), .val (.int rr), .val (.int c0), .val (.int c1), .val (.ref a8), .val (.ref t), .val (.int (0 : Int32)), .val (.long v1), .second, .val (.int r2), .val (.int r2), .val (.int v5), .unset] [(.int (1 : Int32))]))
    refine own_if_eq (pt := 560) (pf := 556) X24 hx (hb hby at_553) rfl (by decide) rfl (fun hc553 => absurd hc553 (by decide)) (fun hc553 => ?_)
    refine own_iconst (pc' := 557) X24 hx (1 : Int32) (hb hby at_556) rfl rfl ?_
    refine own_goto (pc' := 561) X24 hx (hb hby at_557) (by decide) rfl ?_
    refine own_istore (pc' := 563) (l' := #[.val (.long xl), .second, .val (.int i1), .val (.int i2), .val (.int i3), .val (.int rr), .val (.int c0), .val (.int c1), .val (.ref a8), .val (.ref t), .val (.int (0 : Int32)), .val (.long v1), .second, .val (.int r2), .val (.int r2), .val (.int v5), .val (.int (1 : Int32))]) X24 hx (hb hby at_561) rfl rfl rfl ?_
    refine own_iload (pc' := 565) X24 hx (hb hby at_563) rfl rfl ?_
    refine own_if_ne (pt := 570) (pf := 568) X24 hx (hb hby at_565) rfl (by decide) rfl (fun hc565 => ?_) (fun hc565 => absurd hc565 (by decide))
    refine own_aload (pc' := 572) X24 hx (hb hby at_570) rfl rfl rfl ?_
    refine own_iload (pc' := 574) X24 hx (hb hby at_572) rfl rfl ?_
    refine own_iconst (pc' := 575) X24 hx (1 : Int32) (hb hby at_574) rfl rfl ?_
    refine own_iadd (pc' := 576) X24 hx (hb hby at_575) rfl ?_
    have hp26 : us = ([.int (114 : Int32), .int (101 : Int32), .int (102 : Int32), .int (117 : Int32), .int (115 : Int32), .int (101 : Int32), .int (100 : Int32), .int (32 : Int32), .int (108 : Int32), .int (105 : Int32), .int (110 : Int32), .int (101 : Int32), .int (32 : Int32)] ++ own_num xl.toInt.natAbs kk ng) ++ .int (58 : Int32) :: (.int (32 : Int32) :: ws) := by rw [hus]; simp
    have ha26 := own_add (z := v5 + (1 : Int32)) rfl (by omega) (by decide)
    have hd26 : (1 : Int32).toInt = 1 := rfl
    have ht26 := own_getat (d := .int (0 : Int32)) hp26 (i := v5 + (1 : Int32)) (z1 := cn) (by simp only [List.length_append, List.length_cons, List.length_nil, hnl]; omega) hul
    refine own_callV (pc' := 579) (W := 0) (y := (⟨"java/lang/String", "charAt", "(I)C"⟩ : MethodName)) (z := (⟨"java/lang/String", "charAt", "(I)C"⟩ : MethodName)) X24 hx hZ hown (own_w hw 202 rfl) (own_w hw 203 rfl) (notFace_of_selects (args := #[]) (mvT hZ (own_w hw 205 rfl))) (own_w hw 205 rfl) (own_w hw 204 rfl) (own_w hw 3 rfl) (own_w hw 206 rfl) (by decide) hE (con_charAt l Z a0 hw t (v5 + (1 : Int32)) _ n0 z0 G1 fm hG O0 tb ktb cn _ hE hC hV hA (58 : Int32) ht26.1 ht26.2) e24 pd33 [(.int (v5 + (1 : Int32)))] [] rfl rfl rfl (Nat.le_of_eq rfl) (by decide) (by decide) (by rw [hml]; rfl) (hb hby at_576) (by decide) (by decide) rfl ?_
    intro v25 T25 L25 X25 q25
    obtain ⟨r25, rfl, hr25, rfl, e25⟩ := q25
    have M25 := Fr.nil n0
    have N25 := Fr.app N24 M25
    show own_WP _ _ _ _ _ _ _ (T25.setTop (mkF m 579 #[.val (.long xl), .second, .val (.int i1), .val (.int i2), .val (.int i3), .val (.int rr), .val (.int c0), .val (.int c1), .val (.ref a8), .val (.ref t), .val (.int (0 : Int32)), .val (.long v1), .second, .val (.int r2), .val (.int r2), .val (.int v5), .val (.int (1 : Int32))] [(.int r25)]))
    refine own_bipush (pc' := 581) X25 hx (58 : Int32) (hb hby at_579) rfl rfl ?_
    refine own_icmp_ne (pt := 598) (pf := 584) X25 hx (hb hby at_581) rfl (by decide) rfl (fun hc581 => absurd (by rw [hr25]; decide) hc581) (fun hc581 => ?_)
    refine own_aload (pc' := 586) X25 hx (hb hby at_584) rfl rfl rfl ?_
    refine own_iload (pc' := 588) X25 hx (hb hby at_586) rfl rfl ?_
    refine own_iconst (pc' := 589) X25 hx (2 : Int32) (hb hby at_588) rfl rfl ?_
    refine own_iadd (pc' := 590) X25 hx (hb hby at_589) rfl ?_
    have hp28 : us = ([.int (114 : Int32), .int (101 : Int32), .int (102 : Int32), .int (117 : Int32), .int (115 : Int32), .int (101 : Int32), .int (100 : Int32), .int (32 : Int32), .int (108 : Int32), .int (105 : Int32), .int (110 : Int32), .int (101 : Int32), .int (32 : Int32)] ++ own_num xl.toInt.natAbs kk ng ++ [.int (58 : Int32)]) ++ .int (32 : Int32) :: (ws) := by rw [hus]; simp
    have ha28 := own_add (z := v5 + (2 : Int32)) rfl (by omega) (by decide)
    have hd28 : (2 : Int32).toInt = 2 := rfl
    have ht28 := own_getat (d := .int (0 : Int32)) hp28 (i := v5 + (2 : Int32)) (z1 := cn) (by simp only [List.length_append, List.length_cons, List.length_nil, hnl]; omega) hul
    refine own_callV (pc' := 593) (W := 0) (y := (⟨"java/lang/String", "charAt", "(I)C"⟩ : MethodName)) (z := (⟨"java/lang/String", "charAt", "(I)C"⟩ : MethodName)) X25 hx hZ hown (own_w hw 202 rfl) (own_w hw 203 rfl) (notFace_of_selects (args := #[]) (mvT hZ (own_w hw 205 rfl))) (own_w hw 205 rfl) (own_w hw 204 rfl) (own_w hw 3 rfl) (own_w hw 206 rfl) (by decide) hE (con_charAt l Z a0 hw t (v5 + (2 : Int32)) _ n0 z0 G1 fm hG O0 tb ktb cn _ hE hC hV hA (32 : Int32) ht28.1 ht28.2) e25 pd33 [(.int (v5 + (2 : Int32)))] [] rfl rfl rfl (Nat.le_of_eq rfl) (by decide) (by decide) (by rw [hml]; rfl) (hb hby at_590) (by decide) (by decide) rfl ?_
    intro v27 T27 L27 X27 q27
    obtain ⟨r27, rfl, hr27, rfl, e27⟩ := q27
    have M27 := Fr.nil n0
    have N27 := Fr.app N25 M27
    show own_WP _ _ _ _ _ _ _ (T27.setTop (mkF m 593 #[.val (.long xl), .second, .val (.int i1), .val (.int i2), .val (.int i3), .val (.int rr), .val (.int c0), .val (.int c1), .val (.ref a8), .val (.ref t), .val (.int (0 : Int32)), .val (.long v1), .second, .val (.int r2), .val (.int r2), .val (.int v5), .val (.int (1 : Int32))] [(.int r27)]))
    refine own_bipush (pc' := 595) X27 hx (32 : Int32) (hb hby at_593) rfl rfl ?_
    refine own_icmp_eq (pt := 600) (pf := 598) X27 hx (hb hby at_595) rfl (by decide) rfl (fun hc595 => ?_) (fun hc595 => absurd (by rw [hr27]; decide) hc595)
    refine own_iload (pc' := 602) X27 hx (hb hby at_600) rfl rfl ?_
    refine own_iconst (pc' := 603) X27 hx (1 : Int32) (hb hby at_602) rfl rfl ?_
    refine own_icmp_lt (pt := 622) (pf := 606) X27 hx (hb hby at_603) rfl (by decide) rfl (fun hc603 => ?_) (fun hc603 => ?_)
    · skip
      refine own_iload (pc' := 624) X27 hx (hb hby at_622) rfl rfl ?_
      refine own_iconst (pc' := 625) X27 hx (2 : Int32) (hb hby at_624) rfl rfl ?_
      refine own_icmp_ne (pt := 644) (pf := 628) X27 hx (hb hby at_625) rfl (by decide) rfl (fun hc625 => ?_) (fun hc625 => absurd hc625 (fun q => by rw [q] at hc603; exact absurd hc603 (by decide)))
      refine own_iconst (pc' := 645) X27 hx (1 : Int32) (hb hby at_644) rfl rfl ?_
      refine own_retN X27 hx (own_FW hS (by rw [e27]; exact kz0)) hlk (t := .boolean) (by decide) hret (hb hby at_645) (by decide) (by decide) ?_
      exact ⟨rfl, N27⟩
    · skip
      obtain ⟨tl, hws0⟩ : ∃ tl, ws = .int (own_by c0) :: tl := by
        rcases hrw with ⟨q1, q2⟩ | ⟨q1, q2⟩ | ⟨q1, q2⟩
        · exact absurd (by rw [q1]; decide) hc603
        · exact ⟨_, q2⟩
        · exact ⟨_, q2⟩
      refine own_aload (pc' := 608) X27 hx (hb hby at_606) rfl rfl rfl ?_
      refine own_iload (pc' := 610) X27 hx (hb hby at_608) rfl rfl ?_
      refine own_iconst (pc' := 611) X27 hx (3 : Int32) (hb hby at_610) rfl rfl ?_
      refine own_iadd (pc' := 612) X27 hx (hb hby at_611) rfl ?_
      have hp30 : us = ([.int (114 : Int32), .int (101 : Int32), .int (102 : Int32), .int (117 : Int32), .int (115 : Int32), .int (101 : Int32), .int (100 : Int32), .int (32 : Int32), .int (108 : Int32), .int (105 : Int32), .int (110 : Int32), .int (101 : Int32), .int (32 : Int32)] ++ own_num xl.toInt.natAbs kk ng ++ [.int (58 : Int32), .int (32 : Int32)]) ++ .int (own_by c0) :: (tl) := by rw [hus, hws0]; simp
      have ha30 := own_add (z := v5 + (3 : Int32)) rfl (by omega) (by decide)
      have hd30 : (3 : Int32).toInt = 3 := rfl
      have ht30 := own_getat (d := .int (0 : Int32)) hp30 (i := v5 + (3 : Int32)) (z1 := cn) (by simp only [List.length_append, List.length_cons, List.length_nil, hnl]; omega) hul
      refine own_callV (pc' := 615) (W := 0) (y := (⟨"java/lang/String", "charAt", "(I)C"⟩ : MethodName)) (z := (⟨"java/lang/String", "charAt", "(I)C"⟩ : MethodName)) X27 hx hZ hown (own_w hw 202 rfl) (own_w hw 203 rfl) (notFace_of_selects (args := #[]) (mvT hZ (own_w hw 205 rfl))) (own_w hw 205 rfl) (own_w hw 204 rfl) (own_w hw 3 rfl) (own_w hw 206 rfl) (by decide) hE (con_charAt l Z a0 hw t (v5 + (3 : Int32)) _ n0 z0 G1 fm hG O0 tb ktb cn _ hE hC hV hA (own_by c0) ht30.1 ht30.2) e27 pd33 [(.int (v5 + (3 : Int32)))] [] rfl rfl rfl (Nat.le_of_eq rfl) (by decide) (by decide) (by rw [hml]; rfl) (hb hby at_612) (by decide) (by decide) rfl ?_
      intro v29 T29 L29 X29 q29
      obtain ⟨r29, rfl, hr29, rfl, e29⟩ := q29
      have M29 := Fr.nil n0
      have N29 := Fr.app N27 M29
      show own_WP _ _ _ _ _ _ _ (T29.setTop (mkF m 615 #[.val (.long xl), .second, .val (.int i1), .val (.int i2), .val (.int i3), .val (.int rr), .val (.int c0), .val (.int c1), .val (.ref a8), .val (.ref t), .val (.int (0 : Int32)), .val (.long v1), .second, .val (.int r2), .val (.int r2), .val (.int v5), .val (.int (1 : Int32))] [(.int r29)]))
      refine own_iload (pc' := 617) X29 hx (hb hby at_615) rfl rfl ?_
      refine own_icmp_eq (pt := 622) (pf := 620) X29 hx (hb hby at_617) rfl (by decide) rfl (fun hc617 => ?_) (fun hc617 => absurd (by rw [hr29]; exact hch0) hc617)
      refine own_iload (pc' := 624) X29 hx (hb hby at_622) rfl rfl ?_
      refine own_iconst (pc' := 625) X29 hx (2 : Int32) (hb hby at_624) rfl rfl ?_
      refine own_icmp_ne (pt := 644) (pf := 628) X29 hx (hb hby at_625) rfl (by decide) rfl (fun hc625 => ?_) (fun hc625 => ?_)
      · skip
        refine own_iconst (pc' := 645) X29 hx (1 : Int32) (hb hby at_644) rfl rfl ?_
        refine own_retN X29 hx (own_FW hS (by rw [e29]; exact kz0)) hlk (t := .boolean) (by decide) hret (hb hby at_645) (by decide) (by decide) ?_
        exact ⟨rfl, N29⟩
      · skip
        have hws1 : ws = [.int (own_by c0), .int (own_by c1)] := by
          rcases hrw with ⟨q1, q2⟩ | ⟨q1, q2⟩ | ⟨q1, q2⟩
          · rw [q1] at hc625; exact absurd hc625 (by decide)
          · rw [q1] at hc625; exact absurd hc625 (by decide)
          · exact q2
        refine own_aload (pc' := 630) X29 hx (hb hby at_628) rfl rfl rfl ?_
        refine own_iload (pc' := 632) X29 hx (hb hby at_630) rfl rfl ?_
        refine own_iconst (pc' := 633) X29 hx (4 : Int32) (hb hby at_632) rfl rfl ?_
        refine own_iadd (pc' := 634) X29 hx (hb hby at_633) rfl ?_
        have hp32 : us = ([.int (114 : Int32), .int (101 : Int32), .int (102 : Int32), .int (117 : Int32), .int (115 : Int32), .int (101 : Int32), .int (100 : Int32), .int (32 : Int32), .int (108 : Int32), .int (105 : Int32), .int (110 : Int32), .int (101 : Int32), .int (32 : Int32)] ++ own_num xl.toInt.natAbs kk ng ++ [.int (58 : Int32), .int (32 : Int32), .int (own_by c0)]) ++ .int (own_by c1) :: ([]) := by rw [hus, hws1]; simp
        have ha32 := own_add (z := v5 + (4 : Int32)) rfl (by omega) (by decide)
        have hd32 : (4 : Int32).toInt = 4 := rfl
        have ht32 := own_getat (d := .int (0 : Int32)) hp32 (i := v5 + (4 : Int32)) (z1 := cn) (by simp only [List.length_append, List.length_cons, List.length_nil, hnl]; omega) hul
        refine own_callV (pc' := 637) (W := 0) (y := (⟨"java/lang/String", "charAt", "(I)C"⟩ : MethodName)) (z := (⟨"java/lang/String", "charAt", "(I)C"⟩ : MethodName)) X29 hx hZ hown (own_w hw 202 rfl) (own_w hw 203 rfl) (notFace_of_selects (args := #[]) (mvT hZ (own_w hw 205 rfl))) (own_w hw 205 rfl) (own_w hw 204 rfl) (own_w hw 3 rfl) (own_w hw 206 rfl) (by decide) hE (con_charAt l Z a0 hw t (v5 + (4 : Int32)) _ n0 z0 G1 fm hG O0 tb ktb cn _ hE hC hV hA (own_by c1) ht32.1 ht32.2) e29 pd33 [(.int (v5 + (4 : Int32)))] [] rfl rfl rfl (Nat.le_of_eq rfl) (by decide) (by decide) (by rw [hml]; rfl) (hb hby at_634) (by decide) (by decide) rfl ?_
        intro v31 T31 L31 X31 q31
        obtain ⟨r31, rfl, hr31, rfl, e31⟩ := q31
        have M31 := Fr.nil n0
        have N31 := Fr.app N29 M31
        show own_WP _ _ _ _ _ _ _ (T31.setTop (mkF m 637 #[.val (.long xl), .second, .val (.int i1), .val (.int i2), .val (.int i3), .val (.int rr), .val (.int c0), .val (.int c1), .val (.ref a8), .val (.ref t), .val (.int (0 : Int32)), .val (.long v1), .second, .val (.int r2), .val (.int r2), .val (.int v5), .val (.int (1 : Int32))] [(.int r31)]))
        refine own_iload (pc' := 639) X31 hx (hb hby at_637) rfl rfl ?_
        refine own_icmp_eq (pt := 644) (pf := 642) X31 hx (hb hby at_639) rfl (by decide) rfl (fun hc639 => ?_) (fun hc639 => absurd (by rw [hr31]; exact hch1) hc639)
        refine own_iconst (pc' := 645) X31 hx (1 : Int32) (hb hby at_644) rfl rfl ?_
        refine own_retN X31 hx (own_FW hS (by rw [e31]; exact kz0)) hlk (t := .boolean) (by decide) hret (hb hby at_645) (by decide) (by decide) ?_
        exact ⟨rfl, N31⟩
  · skip
    refine own_iconst (pc' := 105) X0 hx (1 : Int32) (hb hby at_104) rfl rfl ?_
    refine own_goto (pc' := 109) X0 hx (hb hby at_105) (by decide) rfl ?_
    refine own_istore (pc' := 111) (l' := #[.val (.long xl), .second, .val (.int i1), .val (.int i2), .val (.int i3), .val (.int rr), .val (.int c0), .val (.int c1), .val (.ref a8), .val (.ref t), .val (.int (1 : Int32)), .unset, .unset, .unset, .unset, .unset, .unset]) X0 hx (hb hby at_109) rfl rfl rfl ?_
    refine own_iload (pc' := 113) X0 hx (hb hby at_111) rfl rfl ?_
    refine own_if_eq (pt := 120) (pf := 116) X0 hx (hb hby at_113) rfl (by decide) rfl (fun hc113 => absurd hc113 (by decide)) (fun hc113 => ?_)
    refine own_lloadN (pc' := 117) X0 hx (hb hby at_116) rfl rfl ?_
    refine own_goto (pc' := 122) X0 hx (hb hby at_117) (by decide) rfl ?_
    refine own_lstore (pc' := 124) (l' := #[.val (.long xl), .second, .val (.int i1), .val (.int i2), .val (.int i3), .val (.int rr), .val (.int c0), .val (.int c1), .val (.ref a8), .val (.ref t), .val (.int (1 : Int32)), .val (.long xl), .second, .unset, .unset, .unset, .unset]) X0 hx (hb hby at_122) rfl rfl rfl ?_
    refine own_lload (pc' := 126) X0 hx (hb hby at_124) rfl rfl ?_
    have hx0 : xl.toInt < 0 := by rw [Int64.lt_iff_toInt_lt] at hc101; exact hc101
    have hmm : xl.toInt = -(xl.toInt.natAbs : Int) := by omega
    have hng1 : ng = 1 := hngx.elim (fun q => q.2) (fun q => absurd hx0 q.1)
    have hngi : ng.toInt = 1 := by rw [hng1]; rfl
    refine own_callS (pc' := 129) (W := 0) (y := (⟨"com/example/ossify/ossify/RefusalDescribePinLaw", "countDigits", "(J)I"⟩ : MethodName)) X0 hx hZ hown (own_w hw 176 rfl) (own_w hw 177 rfl) (own_w hw 178 rfl) (own_w hw 179 rfl) (by decide) (con_cdg l Z a0 hw xl _ _ kk hmm hkk) e0 pd22 [(.long xl)] [] rfl rfl rfl (Nat.le_of_eq rfl) (by decide) (by decide) (by rw [hml]; rfl) (hb hby at_126) (by decide) (by decide) rfl ?_
    intro v33 T33 L33 X33 q33
    obtain ⟨r33, rfl, hr33, rfl, e33⟩ := q33
    have M33 := Fr.nil n0
    have N33 := Fr.app N0 M33
    show own_WP _ _ _ _ _ _ _ (T33.setTop (mkF m 129 #[.val (.long xl), .second, .val (.int i1), .val (.int i2), .val (.int i3), .val (.int rr), .val (.int c0), .val (.int c1), .val (.ref a8), .val (.ref t), .val (.int (1 : Int32)), .val (.long xl), .second, .unset, .unset, .unset, .unset] [(.int r33)]))
    refine own_istore (pc' := 131) (l' := #[.val (.long xl), .second, .val (.int i1), .val (.int i2), .val (.int i3), .val (.int rr), .val (.int c0), .val (.int c1), .val (.ref a8), .val (.ref t), .val (.int (1 : Int32)), .val (.long xl), .second, .val (.int r33), .unset, .unset, .unset]) X33 hx (hb hby at_129) rfl rfl rfl ?_
    refine own_iload (pc' := 133) X33 hx (hb hby at_131) rfl rfl ?_
    refine own_if_eq (pt := 143) (pf := 136) X33 hx (hb hby at_133) rfl (by decide) rfl (fun hc133 => absurd hc133 (by decide)) (fun hc133 => ?_)
    refine own_iload (pc' := 138) X33 hx (hb hby at_136) rfl rfl ?_
    refine own_iconst (pc' := 139) X33 hx (1 : Int32) (hb hby at_138) rfl rfl ?_
    refine own_iadd (pc' := 140) X33 hx (hb hby at_139) rfl ?_
    refine own_goto (pc' := 145) X33 hx (hb hby at_140) (by decide) rfl ?_
    obtain ⟨v34, hv34⟩ : ∃ z : Int32, z = (r33 + (1 : Int32)) := ⟨_, rfl⟩
    refine own_istore (pc' := 147) (l' := #[.val (.long xl), .second, .val (.int i1), .val (.int i2), .val (.int i3), .val (.int rr), .val (.int c0), .val (.int c1), .val (.ref a8), .val (.ref t), .val (.int (1 : Int32)), .val (.long xl), .second, .val (.int r33), .val (.int v34), .unset, .unset]) X33 hx (hb hby at_145) hv34 rfl rfl ?_
    have hnl2 : v34.toInt = (kk : Int) + ng.toInt := by rw [own_add hv34 (by omega) (by decide)]; have e1 : (1 : Int32).toInt = 1 := rfl; omega
    refine own_aload (pc' := 149) X33 hx (hb hby at_147) rfl rfl rfl ?_
    refine own_callV (pc' := 152) (W := 0) (y := (⟨"java/lang/String", "length", "()I"⟩ : MethodName)) (z := (⟨"java/lang/String", "length", "()I"⟩ : MethodName)) X33 hx hZ hown (own_w hw 198 rfl) (own_w hw 74 rfl) (notFace_of_selects (args := #[]) (mvT hZ (own_w hw 76 rfl))) (own_w hw 76 rfl) (own_w hw 75 rfl) (own_w hw 3 rfl) (own_w hw 77 rfl) (by decide) hE (con_length l Z a0 hw t _ n0 z0 G1 fm hG O0 tb ktb cn _ hE hC hV hA) e33 pd18 [] [] rfl rfl rfl (Nat.le_of_eq rfl) (by decide) (by decide) (by rw [hml]; rfl) (hb hby at_149) (by decide) (by decide) rfl ?_
    intro v35 T35 L35 X35 q35
    obtain ⟨r35, rfl, hr35, rfl, e35⟩ := q35
    have hr35 := hr35.symm
    subst hr35
    have M35 := Fr.nil n0
    have N35 := Fr.app N33 M35
    show own_WP _ _ _ _ _ _ _ (T35.setTop (mkF m 152 #[.val (.long xl), .second, .val (.int i1), .val (.int i2), .val (.int i3), .val (.int rr), .val (.int c0), .val (.int c1), .val (.ref a8), .val (.ref t), .val (.int (1 : Int32)), .val (.long xl), .second, .val (.int r33), .val (.int v34), .unset, .unset] [(.int cn)]))
    refine own_bipush (pc' := 154) X35 hx (13 : Int32) (hb hby at_152) rfl rfl ?_
    refine own_iload (pc' := 156) X35 hx (hb hby at_154) rfl rfl ?_
    refine own_iadd (pc' := 157) X35 hx (hb hby at_156) rfl ?_
    refine own_iconst (pc' := 158) X35 hx (2 : Int32) (hb hby at_157) rfl rfl ?_
    refine own_iadd (pc' := 159) X35 hx (hb hby at_158) rfl ?_
    refine own_iload (pc' := 161) X35 hx (hb hby at_159) rfl rfl ?_
    refine own_iadd (pc' := 162) X35 hx (hb hby at_161) rfl ?_
    refine own_icmp_eq (pt := 167) (pf := 165) X35 hx (hb hby at_162) rfl (by decide) rfl (fun hc162 => ?_) (fun hc162 => absurd (own_len13 (by omega) (by omega) (by omega)) hc162)
    refine own_aload (pc' := 169) X35 hx (hb hby at_167) rfl rfl rfl ?_
    refine own_callS (pc' := 172) (W := 0) (y := (⟨"com/example/ossify/ossify/RefusalDescribePinLaw", "prefixOk", "(Ljava/lang/String;)Z"⟩ : MethodName)) X35 hx hZ hown (own_w hw 199 rfl) (own_w hw 200 rfl) (own_w hw 178 rfl) (own_w hw 201 rfl) (by decide) (con_px l Z a0 hw t _ n0 z0 G1 fm hG O0 tb ktb cn _ hE hC hV hA _ hus (by omega)) e35 pd34 [(.ref t)] [] rfl rfl rfl (Nat.le_of_eq rfl) (by decide) (by decide) (by rw [hml]; rfl) (hb hby at_169) (by decide) (by decide) rfl ?_
    intro v36 T36 L36 X36 q36
    obtain ⟨r36, rfl, hr36, rfl, e36⟩ := q36
    subst hr36
    have M36 := Fr.nil n0
    have N36 := Fr.app N35 M36
    show own_WP _ _ _ _ _ _ _ (T36.setTop (mkF m 172 #[.val (.long xl), .second, .val (.int i1), .val (.int i2), .val (.int i3), .val (.int rr), .val (.int c0), .val (.int c1), .val (.ref a8), .val (.ref t), .val (.int (1 : Int32)), .val (.long xl), .second, .val (.int r33), .val (.int v34), .unset, .unset] [(.int (1 : Int32))]))
    refine own_if_ne (pt := 177) (pf := 175) X36 hx (hb hby at_172) rfl (by decide) rfl (fun hc172 => ?_) (fun hc172 => absurd hc172 (by decide))
    refine own_iload (pc' := 179) X36 hx (hb hby at_177) rfl rfl ?_
    refine own_if_eq (pt := 196) (pf := 182) X36 hx (hb hby at_179) rfl (by decide) rfl (fun hc179 => absurd hc179 (by decide)) (fun hc179 => ?_)
    refine own_aload (pc' := 184) X36 hx (hb hby at_182) rfl rfl rfl ?_
    refine own_bipush (pc' := 186) X36 hx (13 : Int32) (hb hby at_184) rfl rfl ?_
    have hp38 : us = [.int (114 : Int32), .int (101 : Int32), .int (102 : Int32), .int (117 : Int32), .int (115 : Int32), .int (101 : Int32), .int (100 : Int32), .int (32 : Int32), .int (108 : Int32), .int (105 : Int32), .int (110 : Int32), .int (101 : Int32), .int (32 : Int32)] ++ .int (45 : Int32) :: ((List.range kk).map (fun i => Value.int (own_dig xl.toInt.natAbs (kk - 1 - i))) ++ ([.int (58 : Int32), .int (32 : Int32)] ++ ws)) := by rw [hus, own_num, if_pos hng1]; simp
    have ht38 := own_getat (d := .int (0 : Int32)) hp38 (i := (13 : Int32)) (z1 := cn) rfl hul
    refine own_callV (pc' := 189) (W := 0) (y := (⟨"java/lang/String", "charAt", "(I)C"⟩ : MethodName)) (z := (⟨"java/lang/String", "charAt", "(I)C"⟩ : MethodName)) X36 hx hZ hown (own_w hw 202 rfl) (own_w hw 203 rfl) (notFace_of_selects (args := #[]) (mvT hZ (own_w hw 205 rfl))) (own_w hw 205 rfl) (own_w hw 204 rfl) (own_w hw 3 rfl) (own_w hw 206 rfl) (by decide) hE (con_charAt l Z a0 hw t (13 : Int32) _ n0 z0 G1 fm hG O0 tb ktb cn _ hE hC hV hA (45 : Int32) ht38.1 ht38.2) e36 pd33 [(.int (13 : Int32))] [] rfl rfl rfl (Nat.le_of_eq rfl) (by decide) (by decide) (by rw [hml]; rfl) (hb hby at_186) (by decide) (by decide) rfl ?_
    intro v37 T37 L37 X37 q37
    obtain ⟨r37, rfl, hr37, rfl, e37⟩ := q37
    have M37 := Fr.nil n0
    have N37 := Fr.app N36 M37
    show own_WP _ _ _ _ _ _ _ (T37.setTop (mkF m 189 #[.val (.long xl), .second, .val (.int i1), .val (.int i2), .val (.int i3), .val (.int rr), .val (.int c0), .val (.int c1), .val (.ref a8), .val (.ref t), .val (.int (1 : Int32)), .val (.long xl), .second, .val (.int r33), .val (.int v34), .unset, .unset] [(.int r37)]))
    refine own_bipush (pc' := 191) X37 hx (45 : Int32) (hb hby at_189) rfl rfl ?_
    refine own_icmp_eq (pt := 196) (pf := 194) X37 hx (hb hby at_191) rfl (by decide) rfl (fun hc191 => ?_) (fun hc191 => absurd (by rw [hr37]; decide) hc191)
    refine own_bipush (pc' := 198) X37 hx (12 : Int32) (hb hby at_196) rfl rfl ?_
    refine own_iload (pc' := 200) X37 hx (hb hby at_198) rfl rfl ?_
    refine own_iadd (pc' := 201) X37 hx (hb hby at_200) rfl ?_
    obtain ⟨v39, hv39⟩ : ∃ z : Int32, z = ((12 : Int32) + v34) := ⟨_, rfl⟩
    refine own_istore (pc' := 203) (l' := #[.val (.long xl), .second, .val (.int i1), .val (.int i2), .val (.int i3), .val (.int rr), .val (.int c0), .val (.int c1), .val (.ref a8), .val (.ref t), .val (.int (1 : Int32)), .val (.long xl), .second, .val (.int r33), .val (.int v34), .val (.int v39), .unset]) X37 hx (hb hby at_201) hv39 rfl rfl ?_
    have hla0 : v39.toInt = 12 + (kk : Int) + ng.toInt := by rw [own_add hv39 (by decide) (by omega)]; have e1 : (12 : Int32).toInt = 12 := rfl; omega
    have hla : v39.toInt = (([.int (114 : Int32), .int (101 : Int32), .int (102 : Int32), .int (117 : Int32), .int (115 : Int32), .int (101 : Int32), .int (100 : Int32), .int (32 : Int32), .int (108 : Int32), .int (105 : Int32), .int (110 : Int32), .int (101 : Int32), .int (32 : Int32)] : List Value).length : Int) + kk + ng.toInt - 1 := by simp only [List.length_cons, List.length_nil]; omega
    refine own_aload (pc' := 205) X37 hx (hb hby at_203) rfl rfl rfl ?_
    refine own_iload (pc' := 207) X37 hx (hb hby at_205) rfl rfl ?_
    refine own_lload (pc' := 209) X37 hx (hb hby at_207) rfl rfl ?_
    refine own_lconst1 (pc' := 210) X37 hx (hb hby at_209) rfl ?_
    refine own_iconst (pc' := 211) X37 hx (0 : Int32) (hb hby at_210) rfl rfl ?_
    refine own_iload (pc' := 213) X37 hx (hb hby at_211) rfl rfl ?_
    refine own_callS (pc' := 216) (W := 0) (y := (⟨"com/example/ossify/ossify/RefusalDescribePinLaw", "digitOk", "(Ljava/lang/String;IJJII)Z"⟩ : MethodName)) X37 hx hZ hown (own_w hw 224 rfl) (own_w hw 225 rfl) (own_w hw 178 rfl) (own_w hw 226 rfl) (by decide) (con_dg l Z a0 hw t v39 xl (1 : Int64) (0 : Int32) r33 _ n0 z0 G1 fm hG O0 tb ktb cn _ hE hC hV hA xl.toInt.natAbs 0 hmm rfl (own_dgP hng hus hla (by omega) rfl (by decide) hr33 hul)) e37 pd35 [(.ref t), (.int v39), (.long xl), (.long (1 : Int64)), (.int (0 : Int32)), (.int r33)] [] rfl rfl rfl (Nat.le_of_eq rfl) (by decide) (by decide) (by rw [hml]; rfl) (hb hby at_213) (by decide) (by decide) rfl ?_
    intro v40 T40 L40 X40 q40
    obtain ⟨r40, rfl, hr40, rfl, e40⟩ := q40
    subst hr40
    have M40 := Fr.nil n0
    have N40 := Fr.app N37 M40
    show own_WP _ _ _ _ _ _ _ (T40.setTop (mkF m 216 #[.val (.long xl), .second, .val (.int i1), .val (.int i2), .val (.int i3), .val (.int rr), .val (.int c0), .val (.int c1), .val (.ref a8), .val (.ref t), .val (.int (1 : Int32)), .val (.long xl), .second, .val (.int r33), .val (.int v34), .val (.int v39), .unset] [(.int (1 : Int32))]))
    refine own_if_eq (pt := 560) (pf := 219) X40 hx (hb hby at_216) rfl (by decide) rfl (fun hc216 => absurd hc216 (by decide)) (fun hc216 => ?_)
    refine own_aload (pc' := 221) X40 hx (hb hby at_219) rfl rfl rfl ?_
    refine own_iload (pc' := 223) X40 hx (hb hby at_221) rfl rfl ?_
    refine own_lload (pc' := 225) X40 hx (hb hby at_223) rfl rfl ?_
    refine own_ldc2Long (pc' := 228) X40 hx hZ hown (own_w hw 227 rfl) (hb hby at_225) rfl ?_
    refine own_iconst (pc' := 229) X40 hx (1 : Int32) (hb hby at_228) rfl rfl ?_
    refine own_iload (pc' := 231) X40 hx (hb hby at_229) rfl rfl ?_
    refine own_callS (pc' := 234) (W := 0) (y := (⟨"com/example/ossify/ossify/RefusalDescribePinLaw", "digitOk", "(Ljava/lang/String;IJJII)Z"⟩ : MethodName)) X40 hx hZ hown (own_w hw 224 rfl) (own_w hw 225 rfl) (own_w hw 178 rfl) (own_w hw 226 rfl) (by decide) (con_dg l Z a0 hw t v39 xl (10 : Int64) (1 : Int32) r33 _ n0 z0 G1 fm hG O0 tb ktb cn _ hE hC hV hA xl.toInt.natAbs 1 hmm rfl (own_dgP hng hus hla (by omega) rfl (by decide) hr33 hul)) e40 pd35 [(.ref t), (.int v39), (.long xl), (.long (10 : Int64)), (.int (1 : Int32)), (.int r33)] [] rfl rfl rfl (Nat.le_of_eq rfl) (by decide) (by decide) (by rw [hml]; rfl) (hb hby at_231) (by decide) (by decide) rfl ?_
    intro v41 T41 L41 X41 q41
    obtain ⟨r41, rfl, hr41, rfl, e41⟩ := q41
    subst hr41
    have M41 := Fr.nil n0
    have N41 := Fr.app N40 M41
    show own_WP _ _ _ _ _ _ _ (T41.setTop (mkF m 234 #[.val (.long xl), .second, .val (.int i1), .val (.int i2), .val (.int i3), .val (.int rr), .val (.int c0), .val (.int c1), .val (.ref a8), .val (.ref t), .val (.int (1 : Int32)), .val (.long xl), .second, .val (.int r33), .val (.int v34), .val (.int v39), .unset] [(.int (1 : Int32))]))
    refine own_if_eq (pt := 560) (pf := 237) X41 hx (hb hby at_234) rfl (by decide) rfl (fun hc234 => absurd hc234 (by decide)) (fun hc234 => ?_)
    refine own_aload (pc' := 239) X41 hx (hb hby at_237) rfl rfl rfl ?_
    refine own_iload (pc' := 241) X41 hx (hb hby at_239) rfl rfl ?_
    refine own_lload (pc' := 243) X41 hx (hb hby at_241) rfl rfl ?_
    refine own_ldc2Long (pc' := 246) X41 hx hZ hown (own_w hw 228 rfl) (hb hby at_243) rfl ?_
    refine own_iconst (pc' := 247) X41 hx (2 : Int32) (hb hby at_246) rfl rfl ?_
    refine own_iload (pc' := 249) X41 hx (hb hby at_247) rfl rfl ?_
    refine own_callS (pc' := 252) (W := 0) (y := (⟨"com/example/ossify/ossify/RefusalDescribePinLaw", "digitOk", "(Ljava/lang/String;IJJII)Z"⟩ : MethodName)) X41 hx hZ hown (own_w hw 224 rfl) (own_w hw 225 rfl) (own_w hw 178 rfl) (own_w hw 226 rfl) (by decide) (con_dg l Z a0 hw t v39 xl (100 : Int64) (2 : Int32) r33 _ n0 z0 G1 fm hG O0 tb ktb cn _ hE hC hV hA xl.toInt.natAbs 2 hmm rfl (own_dgP hng hus hla (by omega) rfl (by decide) hr33 hul)) e41 pd35 [(.ref t), (.int v39), (.long xl), (.long (100 : Int64)), (.int (2 : Int32)), (.int r33)] [] rfl rfl rfl (Nat.le_of_eq rfl) (by decide) (by decide) (by rw [hml]; rfl) (hb hby at_249) (by decide) (by decide) rfl ?_
    intro v42 T42 L42 X42 q42
    obtain ⟨r42, rfl, hr42, rfl, e42⟩ := q42
    subst hr42
    have M42 := Fr.nil n0
    have N42 := Fr.app N41 M42
    show own_WP _ _ _ _ _ _ _ (T42.setTop (mkF m 252 #[.val (.long xl), .second, .val (.int i1), .val (.int i2), .val (.int i3), .val (.int rr), .val (.int c0), .val (.int c1), .val (.ref a8), .val (.ref t), .val (.int (1 : Int32)), .val (.long xl), .second, .val (.int r33), .val (.int v34), .val (.int v39), .unset] [(.int (1 : Int32))]))
    refine own_if_eq (pt := 560) (pf := 255) X42 hx (hb hby at_252) rfl (by decide) rfl (fun hc252 => absurd hc252 (by decide)) (fun hc252 => ?_)
    refine own_aload (pc' := 257) X42 hx (hb hby at_255) rfl rfl rfl ?_
    refine own_iload (pc' := 259) X42 hx (hb hby at_257) rfl rfl ?_
    refine own_lload (pc' := 261) X42 hx (hb hby at_259) rfl rfl ?_
    refine own_ldc2Long (pc' := 264) X42 hx hZ hown (own_w hw 229 rfl) (hb hby at_261) rfl ?_
    refine own_iconst (pc' := 265) X42 hx (3 : Int32) (hb hby at_264) rfl rfl ?_
    refine own_iload (pc' := 267) X42 hx (hb hby at_265) rfl rfl ?_
    refine own_callS (pc' := 270) (W := 0) (y := (⟨"com/example/ossify/ossify/RefusalDescribePinLaw", "digitOk", "(Ljava/lang/String;IJJII)Z"⟩ : MethodName)) X42 hx hZ hown (own_w hw 224 rfl) (own_w hw 225 rfl) (own_w hw 178 rfl) (own_w hw 226 rfl) (by decide) (con_dg l Z a0 hw t v39 xl (1000 : Int64) (3 : Int32) r33 _ n0 z0 G1 fm hG O0 tb ktb cn _ hE hC hV hA xl.toInt.natAbs 3 hmm rfl (own_dgP hng hus hla (by omega) rfl (by decide) hr33 hul)) e42 pd35 [(.ref t), (.int v39), (.long xl), (.long (1000 : Int64)), (.int (3 : Int32)), (.int r33)] [] rfl rfl rfl (Nat.le_of_eq rfl) (by decide) (by decide) (by rw [hml]; rfl) (hb hby at_267) (by decide) (by decide) rfl ?_
    intro v43 T43 L43 X43 q43
    obtain ⟨r43, rfl, hr43, rfl, e43⟩ := q43
    subst hr43
    have M43 := Fr.nil n0
    have N43 := Fr.app N42 M43
    show own_WP _ _ _ _ _ _ _ (T43.setTop (mkF m 270 #[.val (.long xl), .second, .val (.int i1), .val (.int i2), .val (.int i3), .val (.int rr), .val (.int c0), .val (.int c1), .val (.ref a8), .val (.ref t), .val (.int (1 : Int32)), .val (.long xl), .second, .val (.int r33), .val (.int v34), .val (.int v39), .unset] [(.int (1 : Int32))]))
    refine own_if_eq (pt := 560) (pf := 273) X43 hx (hb hby at_270) rfl (by decide) rfl (fun hc270 => absurd hc270 (by decide)) (fun hc270 => ?_)
    refine own_aload (pc' := 275) X43 hx (hb hby at_273) rfl rfl rfl ?_
    refine own_iload (pc' := 277) X43 hx (hb hby at_275) rfl rfl ?_
    refine own_lload (pc' := 279) X43 hx (hb hby at_277) rfl rfl ?_
    refine own_ldc2Long (pc' := 282) X43 hx hZ hown (own_w hw 230 rfl) (hb hby at_279) rfl ?_
    refine own_iconst (pc' := 283) X43 hx (4 : Int32) (hb hby at_282) rfl rfl ?_
    refine own_iload (pc' := 285) X43 hx (hb hby at_283) rfl rfl ?_
    refine own_callS (pc' := 288) (W := 0) (y := (⟨"com/example/ossify/ossify/RefusalDescribePinLaw", "digitOk", "(Ljava/lang/String;IJJII)Z"⟩ : MethodName)) X43 hx hZ hown (own_w hw 224 rfl) (own_w hw 225 rfl) (own_w hw 178 rfl) (own_w hw 226 rfl) (by decide) (con_dg l Z a0 hw t v39 xl (10000 : Int64) (4 : Int32) r33 _ n0 z0 G1 fm hG O0 tb ktb cn _ hE hC hV hA xl.toInt.natAbs 4 hmm rfl (own_dgP hng hus hla (by omega) rfl (by decide) hr33 hul)) e43 pd35 [(.ref t), (.int v39), (.long xl), (.long (10000 : Int64)), (.int (4 : Int32)), (.int r33)] [] rfl rfl rfl (Nat.le_of_eq rfl) (by decide) (by decide) (by rw [hml]; rfl) (hb hby at_285) (by decide) (by decide) rfl ?_
    intro v44 T44 L44 X44 q44
    obtain ⟨r44, rfl, hr44, rfl, e44⟩ := q44
    subst hr44
    have M44 := Fr.nil n0
    have N44 := Fr.app N43 M44
    show own_WP _ _ _ _ _ _ _ (T44.setTop (mkF m 288 #[.val (.long xl), .second, .val (.int i1), .val (.int i2), .val (.int i3), .val (.int rr), .val (.int c0), .val (.int c1), .val (.ref a8), .val (.ref t), .val (.int (1 : Int32)), .val (.long xl), .second, .val (.int r33), .val (.int v34), .val (.int v39), .unset] [(.int (1 : Int32))]))
    refine own_if_eq (pt := 560) (pf := 291) X44 hx (hb hby at_288) rfl (by decide) rfl (fun hc288 => absurd hc288 (by decide)) (fun hc288 => ?_)
    refine own_aload (pc' := 293) X44 hx (hb hby at_291) rfl rfl rfl ?_
    refine own_iload (pc' := 295) X44 hx (hb hby at_293) rfl rfl ?_
    refine own_lload (pc' := 297) X44 hx (hb hby at_295) rfl rfl ?_
    refine own_ldc2Long (pc' := 300) X44 hx hZ hown (own_w hw 231 rfl) (hb hby at_297) rfl ?_
    refine own_iconst (pc' := 301) X44 hx (5 : Int32) (hb hby at_300) rfl rfl ?_
    refine own_iload (pc' := 303) X44 hx (hb hby at_301) rfl rfl ?_
    refine own_callS (pc' := 306) (W := 0) (y := (⟨"com/example/ossify/ossify/RefusalDescribePinLaw", "digitOk", "(Ljava/lang/String;IJJII)Z"⟩ : MethodName)) X44 hx hZ hown (own_w hw 224 rfl) (own_w hw 225 rfl) (own_w hw 178 rfl) (own_w hw 226 rfl) (by decide) (con_dg l Z a0 hw t v39 xl (100000 : Int64) (5 : Int32) r33 _ n0 z0 G1 fm hG O0 tb ktb cn _ hE hC hV hA xl.toInt.natAbs 5 hmm rfl (own_dgP hng hus hla (by omega) rfl (by decide) hr33 hul)) e44 pd35 [(.ref t), (.int v39), (.long xl), (.long (100000 : Int64)), (.int (5 : Int32)), (.int r33)] [] rfl rfl rfl (Nat.le_of_eq rfl) (by decide) (by decide) (by rw [hml]; rfl) (hb hby at_303) (by decide) (by decide) rfl ?_
    intro v45 T45 L45 X45 q45
    obtain ⟨r45, rfl, hr45, rfl, e45⟩ := q45
    subst hr45
    have M45 := Fr.nil n0
    have N45 := Fr.app N44 M45
    show own_WP _ _ _ _ _ _ _ (T45.setTop (mkF m 306 #[.val (.long xl), .second, .val (.int i1), .val (.int i2), .val (.int i3), .val (.int rr), .val (.int c0), .val (.int c1), .val (.ref a8), .val (.ref t), .val (.int (1 : Int32)), .val (.long xl), .second, .val (.int r33), .val (.int v34), .val (.int v39), .unset] [(.int (1 : Int32))]))
    refine own_if_eq (pt := 560) (pf := 309) X45 hx (hb hby at_306) rfl (by decide) rfl (fun hc306 => absurd hc306 (by decide)) (fun hc306 => ?_)
    refine own_aload (pc' := 311) X45 hx (hb hby at_309) rfl rfl rfl ?_
    refine own_iload (pc' := 313) X45 hx (hb hby at_311) rfl rfl ?_
    refine own_lload (pc' := 315) X45 hx (hb hby at_313) rfl rfl ?_
    refine own_ldc2Long (pc' := 318) X45 hx hZ hown (own_w hw 232 rfl) (hb hby at_315) rfl ?_
    refine own_bipush (pc' := 320) X45 hx (6 : Int32) (hb hby at_318) rfl rfl ?_
    refine own_iload (pc' := 322) X45 hx (hb hby at_320) rfl rfl ?_
    refine own_callS (pc' := 325) (W := 0) (y := (⟨"com/example/ossify/ossify/RefusalDescribePinLaw", "digitOk", "(Ljava/lang/String;IJJII)Z"⟩ : MethodName)) X45 hx hZ hown (own_w hw 224 rfl) (own_w hw 225 rfl) (own_w hw 178 rfl) (own_w hw 226 rfl) (by decide) (con_dg l Z a0 hw t v39 xl (1000000 : Int64) (6 : Int32) r33 _ n0 z0 G1 fm hG O0 tb ktb cn _ hE hC hV hA xl.toInt.natAbs 6 hmm rfl (own_dgP hng hus hla (by omega) rfl (by decide) hr33 hul)) e45 pd35 [(.ref t), (.int v39), (.long xl), (.long (1000000 : Int64)), (.int (6 : Int32)), (.int r33)] [] rfl rfl rfl (Nat.le_of_eq rfl) (by decide) (by decide) (by rw [hml]; rfl) (hb hby at_322) (by decide) (by decide) rfl ?_
    intro v46 T46 L46 X46 q46
    obtain ⟨r46, rfl, hr46, rfl, e46⟩ := q46
    subst hr46
    have M46 := Fr.nil n0
    have N46 := Fr.app N45 M46
    show own_WP _ _ _ _ _ _ _ (T46.setTop (mkF m 325 #[.val (.long xl), .second, .val (.int i1), .val (.int i2), .val (.int i3), .val (.int rr), .val (.int c0), .val (.int c1), .val (.ref a8), .val (.ref t), .val (.int (1 : Int32)), .val (.long xl), .second, .val (.int r33), .val (.int v34), .val (.int v39), .unset] [(.int (1 : Int32))]))
    refine own_if_eq (pt := 560) (pf := 328) X46 hx (hb hby at_325) rfl (by decide) rfl (fun hc325 => absurd hc325 (by decide)) (fun hc325 => ?_)
    refine own_aload (pc' := 330) X46 hx (hb hby at_328) rfl rfl rfl ?_
    refine own_iload (pc' := 332) X46 hx (hb hby at_330) rfl rfl ?_
    refine own_lload (pc' := 334) X46 hx (hb hby at_332) rfl rfl ?_
    refine own_ldc2Long (pc' := 337) X46 hx hZ hown (own_w hw 233 rfl) (hb hby at_334) rfl ?_
    refine own_bipush (pc' := 339) X46 hx (7 : Int32) (hb hby at_337) rfl rfl ?_
    refine own_iload (pc' := 341) X46 hx (hb hby at_339) rfl rfl ?_
    refine own_callS (pc' := 344) (W := 0) (y := (⟨"com/example/ossify/ossify/RefusalDescribePinLaw", "digitOk", "(Ljava/lang/String;IJJII)Z"⟩ : MethodName)) X46 hx hZ hown (own_w hw 224 rfl) (own_w hw 225 rfl) (own_w hw 178 rfl) (own_w hw 226 rfl) (by decide) (con_dg l Z a0 hw t v39 xl (10000000 : Int64) (7 : Int32) r33 _ n0 z0 G1 fm hG O0 tb ktb cn _ hE hC hV hA xl.toInt.natAbs 7 hmm rfl (own_dgP hng hus hla (by omega) rfl (by decide) hr33 hul)) e46 pd35 [(.ref t), (.int v39), (.long xl), (.long (10000000 : Int64)), (.int (7 : Int32)), (.int r33)] [] rfl rfl rfl (Nat.le_of_eq rfl) (by decide) (by decide) (by rw [hml]; rfl) (hb hby at_341) (by decide) (by decide) rfl ?_
    intro v47 T47 L47 X47 q47
    obtain ⟨r47, rfl, hr47, rfl, e47⟩ := q47
    subst hr47
    have M47 := Fr.nil n0
    have N47 := Fr.app N46 M47
    show own_WP _ _ _ _ _ _ _ (T47.setTop (mkF m 344 #[.val (.long xl), .second, .val (.int i1), .val (.int i2), .val (.int i3), .val (.int rr), .val (.int c0), .val (.int c1), .val (.ref a8), .val (.ref t), .val (.int (1 : Int32)), .val (.long xl), .second, .val (.int r33), .val (.int v34), .val (.int v39), .unset] [(.int (1 : Int32))]))
    refine own_if_eq (pt := 560) (pf := 347) X47 hx (hb hby at_344) rfl (by decide) rfl (fun hc344 => absurd hc344 (by decide)) (fun hc344 => ?_)
    refine own_aload (pc' := 349) X47 hx (hb hby at_347) rfl rfl rfl ?_
    refine own_iload (pc' := 351) X47 hx (hb hby at_349) rfl rfl ?_
    refine own_lload (pc' := 353) X47 hx (hb hby at_351) rfl rfl ?_
    refine own_ldc2Long (pc' := 356) X47 hx hZ hown (own_w hw 234 rfl) (hb hby at_353) rfl ?_
    refine own_bipush (pc' := 358) X47 hx (8 : Int32) (hb hby at_356) rfl rfl ?_
    refine own_iload (pc' := 360) X47 hx (hb hby at_358) rfl rfl ?_
    refine own_callS (pc' := 363) (W := 0) (y := (⟨"com/example/ossify/ossify/RefusalDescribePinLaw", "digitOk", "(Ljava/lang/String;IJJII)Z"⟩ : MethodName)) X47 hx hZ hown (own_w hw 224 rfl) (own_w hw 225 rfl) (own_w hw 178 rfl) (own_w hw 226 rfl) (by decide) (con_dg l Z a0 hw t v39 xl (100000000 : Int64) (8 : Int32) r33 _ n0 z0 G1 fm hG O0 tb ktb cn _ hE hC hV hA xl.toInt.natAbs 8 hmm rfl (own_dgP hng hus hla (by omega) rfl (by decide) hr33 hul)) e47 pd35 [(.ref t), (.int v39), (.long xl), (.long (100000000 : Int64)), (.int (8 : Int32)), (.int r33)] [] rfl rfl rfl (Nat.le_of_eq rfl) (by decide) (by decide) (by rw [hml]; rfl) (hb hby at_360) (by decide) (by decide) rfl ?_
    intro v48 T48 L48 X48 q48
    obtain ⟨r48, rfl, hr48, rfl, e48⟩ := q48
    subst hr48
    have M48 := Fr.nil n0
    have N48 := Fr.app N47 M48
    show own_WP _ _ _ _ _ _ _ (T48.setTop (mkF m 363 #[.val (.long xl), .second, .val (.int i1), .val (.int i2), .val (.int i3), .val (.int rr), .val (.int c0), .val (.int c1), .val (.ref a8), .val (.ref t), .val (.int (1 : Int32)), .val (.long xl), .second, .val (.int r33), .val (.int v34), .val (.int v39), .unset] [(.int (1 : Int32))]))
    refine own_if_eq (pt := 560) (pf := 366) X48 hx (hb hby at_363) rfl (by decide) rfl (fun hc363 => absurd hc363 (by decide)) (fun hc363 => ?_)
    refine own_aload (pc' := 368) X48 hx (hb hby at_366) rfl rfl rfl ?_
    refine own_iload (pc' := 370) X48 hx (hb hby at_368) rfl rfl ?_
    refine own_lload (pc' := 372) X48 hx (hb hby at_370) rfl rfl ?_
    refine own_ldc2Long (pc' := 375) X48 hx hZ hown (own_w hw 235 rfl) (hb hby at_372) rfl ?_
    refine own_bipush (pc' := 377) X48 hx (9 : Int32) (hb hby at_375) rfl rfl ?_
    refine own_iload (pc' := 379) X48 hx (hb hby at_377) rfl rfl ?_
    refine own_callS (pc' := 382) (W := 0) (y := (⟨"com/example/ossify/ossify/RefusalDescribePinLaw", "digitOk", "(Ljava/lang/String;IJJII)Z"⟩ : MethodName)) X48 hx hZ hown (own_w hw 224 rfl) (own_w hw 225 rfl) (own_w hw 178 rfl) (own_w hw 226 rfl) (by decide) (con_dg l Z a0 hw t v39 xl (1000000000 : Int64) (9 : Int32) r33 _ n0 z0 G1 fm hG O0 tb ktb cn _ hE hC hV hA xl.toInt.natAbs 9 hmm rfl (own_dgP hng hus hla (by omega) rfl (by decide) hr33 hul)) e48 pd35 [(.ref t), (.int v39), (.long xl), (.long (1000000000 : Int64)), (.int (9 : Int32)), (.int r33)] [] rfl rfl rfl (Nat.le_of_eq rfl) (by decide) (by decide) (by rw [hml]; rfl) (hb hby at_379) (by decide) (by decide) rfl ?_
    intro v49 T49 L49 X49 q49
    obtain ⟨r49, rfl, hr49, rfl, e49⟩ := q49
    subst hr49
    have M49 := Fr.nil n0
    have N49 := Fr.app N48 M49
    show own_WP _ _ _ _ _ _ _ (T49.setTop (mkF m 382 #[.val (.long xl), .second, .val (.int i1), .val (.int i2), .val (.int i3), .val (.int rr), .val (.int c0), .val (.int c1), .val (.ref a8), .val (.ref t), .val (.int (1 : Int32)), .val (.long xl), .second, .val (.int r33), .val (.int v34), .val (.int v39), .unset] [(.int (1 : Int32))]))
    refine own_if_eq (pt := 560) (pf := 385) X49 hx (hb hby at_382) rfl (by decide) rfl (fun hc382 => absurd hc382 (by decide)) (fun hc382 => ?_)
    refine own_aload (pc' := 387) X49 hx (hb hby at_385) rfl rfl rfl ?_
    refine own_iload (pc' := 389) X49 hx (hb hby at_387) rfl rfl ?_
    refine own_lload (pc' := 391) X49 hx (hb hby at_389) rfl rfl ?_
    refine own_ldc2Long (pc' := 394) X49 hx hZ hown (own_w hw 236 rfl) (hb hby at_391) rfl ?_
    refine own_bipush (pc' := 396) X49 hx (10 : Int32) (hb hby at_394) rfl rfl ?_
    refine own_iload (pc' := 398) X49 hx (hb hby at_396) rfl rfl ?_
    refine own_callS (pc' := 401) (W := 0) (y := (⟨"com/example/ossify/ossify/RefusalDescribePinLaw", "digitOk", "(Ljava/lang/String;IJJII)Z"⟩ : MethodName)) X49 hx hZ hown (own_w hw 224 rfl) (own_w hw 225 rfl) (own_w hw 178 rfl) (own_w hw 226 rfl) (by decide) (con_dg l Z a0 hw t v39 xl (10000000000 : Int64) (10 : Int32) r33 _ n0 z0 G1 fm hG O0 tb ktb cn _ hE hC hV hA xl.toInt.natAbs 10 hmm rfl (own_dgP hng hus hla (by omega) rfl (by decide) hr33 hul)) e49 pd35 [(.ref t), (.int v39), (.long xl), (.long (10000000000 : Int64)), (.int (10 : Int32)), (.int r33)] [] rfl rfl rfl (Nat.le_of_eq rfl) (by decide) (by decide) (by rw [hml]; rfl) (hb hby at_398) (by decide) (by decide) rfl ?_
    intro v50 T50 L50 X50 q50
    obtain ⟨r50, rfl, hr50, rfl, e50⟩ := q50
    subst hr50
    have M50 := Fr.nil n0
    have N50 := Fr.app N49 M50
    show own_WP _ _ _ _ _ _ _ (T50.setTop (mkF m 401 #[.val (.long xl), .second, .val (.int i1), .val (.int i2), .val (.int i3), .val (.int rr), .val (.int c0), .val (.int c1), .val (.ref a8), .val (.ref t), .val (.int (1 : Int32)), .val (.long xl), .second, .val (.int r33), .val (.int v34), .val (.int v39), .unset] [(.int (1 : Int32))]))
    refine own_if_eq (pt := 560) (pf := 404) X50 hx (hb hby at_401) rfl (by decide) rfl (fun hc401 => absurd hc401 (by decide)) (fun hc401 => ?_)
    refine own_aload (pc' := 406) X50 hx (hb hby at_404) rfl rfl rfl ?_
    refine own_iload (pc' := 408) X50 hx (hb hby at_406) rfl rfl ?_
    refine own_lload (pc' := 410) X50 hx (hb hby at_408) rfl rfl ?_
    refine own_ldc2Long (pc' := 413) X50 hx hZ hown (own_w hw 237 rfl) (hb hby at_410) rfl ?_
    refine own_bipush (pc' := 415) X50 hx (11 : Int32) (hb hby at_413) rfl rfl ?_
    refine own_iload (pc' := 417) X50 hx (hb hby at_415) rfl rfl ?_
    refine own_callS (pc' := 420) (W := 0) (y := (⟨"com/example/ossify/ossify/RefusalDescribePinLaw", "digitOk", "(Ljava/lang/String;IJJII)Z"⟩ : MethodName)) X50 hx hZ hown (own_w hw 224 rfl) (own_w hw 225 rfl) (own_w hw 178 rfl) (own_w hw 226 rfl) (by decide) (con_dg l Z a0 hw t v39 xl (100000000000 : Int64) (11 : Int32) r33 _ n0 z0 G1 fm hG O0 tb ktb cn _ hE hC hV hA xl.toInt.natAbs 11 hmm rfl (own_dgP hng hus hla (by omega) rfl (by decide) hr33 hul)) e50 pd35 [(.ref t), (.int v39), (.long xl), (.long (100000000000 : Int64)), (.int (11 : Int32)), (.int r33)] [] rfl rfl rfl (Nat.le_of_eq rfl) (by decide) (by decide) (by rw [hml]; rfl) (hb hby at_417) (by decide) (by decide) rfl ?_
    intro v51 T51 L51 X51 q51
    obtain ⟨r51, rfl, hr51, rfl, e51⟩ := q51
    subst hr51
    have M51 := Fr.nil n0
    have N51 := Fr.app N50 M51
    show own_WP _ _ _ _ _ _ _ (T51.setTop (mkF m 420 #[.val (.long xl), .second, .val (.int i1), .val (.int i2), .val (.int i3), .val (.int rr), .val (.int c0), .val (.int c1), .val (.ref a8), .val (.ref t), .val (.int (1 : Int32)), .val (.long xl), .second, .val (.int r33), .val (.int v34), .val (.int v39), .unset] [(.int (1 : Int32))]))
    refine own_if_eq (pt := 560) (pf := 423) X51 hx (hb hby at_420) rfl (by decide) rfl (fun hc420 => absurd hc420 (by decide)) (fun hc420 => ?_)
    refine own_aload (pc' := 425) X51 hx (hb hby at_423) rfl rfl rfl ?_
    refine own_iload (pc' := 427) X51 hx (hb hby at_425) rfl rfl ?_
    refine own_lload (pc' := 429) X51 hx (hb hby at_427) rfl rfl ?_
    refine own_ldc2Long (pc' := 432) X51 hx hZ hown (own_w hw 238 rfl) (hb hby at_429) rfl ?_
    refine own_bipush (pc' := 434) X51 hx (12 : Int32) (hb hby at_432) rfl rfl ?_
    refine own_iload (pc' := 436) X51 hx (hb hby at_434) rfl rfl ?_
    refine own_callS (pc' := 439) (W := 0) (y := (⟨"com/example/ossify/ossify/RefusalDescribePinLaw", "digitOk", "(Ljava/lang/String;IJJII)Z"⟩ : MethodName)) X51 hx hZ hown (own_w hw 224 rfl) (own_w hw 225 rfl) (own_w hw 178 rfl) (own_w hw 226 rfl) (by decide) (con_dg l Z a0 hw t v39 xl (1000000000000 : Int64) (12 : Int32) r33 _ n0 z0 G1 fm hG O0 tb ktb cn _ hE hC hV hA xl.toInt.natAbs 12 hmm rfl (own_dgP hng hus hla (by omega) rfl (by decide) hr33 hul)) e51 pd35 [(.ref t), (.int v39), (.long xl), (.long (1000000000000 : Int64)), (.int (12 : Int32)), (.int r33)] [] rfl rfl rfl (Nat.le_of_eq rfl) (by decide) (by decide) (by rw [hml]; rfl) (hb hby at_436) (by decide) (by decide) rfl ?_
    intro v52 T52 L52 X52 q52
    obtain ⟨r52, rfl, hr52, rfl, e52⟩ := q52
    subst hr52
    have M52 := Fr.nil n0
    have N52 := Fr.app N51 M52
    show own_WP _ _ _ _ _ _ _ (T52.setTop (mkF m 439 #[.val (.long xl), .second, .val (.int i1), .val (.int i2), .val (.int i3), .val (.int rr), .val (.int c0), .val (.int c1), .val (.ref a8), .val (.ref t), .val (.int (1 : Int32)), .val (.long xl), .second, .val (.int r33), .val (.int v34), .val (.int v39), .unset] [(.int (1 : Int32))]))
    refine own_if_eq (pt := 560) (pf := 442) X52 hx (hb hby at_439) rfl (by decide) rfl (fun hc439 => absurd hc439 (by decide)) (fun hc439 => ?_)
    refine own_aload (pc' := 444) X52 hx (hb hby at_442) rfl rfl rfl ?_
    refine own_iload (pc' := 446) X52 hx (hb hby at_444) rfl rfl ?_
    refine own_lload (pc' := 448) X52 hx (hb hby at_446) rfl rfl ?_
    refine own_ldc2Long (pc' := 451) X52 hx hZ hown (own_w hw 239 rfl) (hb hby at_448) rfl ?_
    refine own_bipush (pc' := 453) X52 hx (13 : Int32) (hb hby at_451) rfl rfl ?_
    refine own_iload (pc' := 455) X52 hx (hb hby at_453) rfl rfl ?_
    refine own_callS (pc' := 458) (W := 0) (y := (⟨"com/example/ossify/ossify/RefusalDescribePinLaw", "digitOk", "(Ljava/lang/String;IJJII)Z"⟩ : MethodName)) X52 hx hZ hown (own_w hw 224 rfl) (own_w hw 225 rfl) (own_w hw 178 rfl) (own_w hw 226 rfl) (by decide) (con_dg l Z a0 hw t v39 xl (10000000000000 : Int64) (13 : Int32) r33 _ n0 z0 G1 fm hG O0 tb ktb cn _ hE hC hV hA xl.toInt.natAbs 13 hmm rfl (own_dgP hng hus hla (by omega) rfl (by decide) hr33 hul)) e52 pd35 [(.ref t), (.int v39), (.long xl), (.long (10000000000000 : Int64)), (.int (13 : Int32)), (.int r33)] [] rfl rfl rfl (Nat.le_of_eq rfl) (by decide) (by decide) (by rw [hml]; rfl) (hb hby at_455) (by decide) (by decide) rfl ?_
    intro v53 T53 L53 X53 q53
    obtain ⟨r53, rfl, hr53, rfl, e53⟩ := q53
    subst hr53
    have M53 := Fr.nil n0
    have N53 := Fr.app N52 M53
    show own_WP _ _ _ _ _ _ _ (T53.setTop (mkF m 458 #[.val (.long xl), .second, .val (.int i1), .val (.int i2), .val (.int i3), .val (.int rr), .val (.int c0), .val (.int c1), .val (.ref a8), .val (.ref t), .val (.int (1 : Int32)), .val (.long xl), .second, .val (.int r33), .val (.int v34), .val (.int v39), .unset] [(.int (1 : Int32))]))
    refine own_if_eq (pt := 560) (pf := 461) X53 hx (hb hby at_458) rfl (by decide) rfl (fun hc458 => absurd hc458 (by decide)) (fun hc458 => ?_)
    refine own_aload (pc' := 463) X53 hx (hb hby at_461) rfl rfl rfl ?_
    refine own_iload (pc' := 465) X53 hx (hb hby at_463) rfl rfl ?_
    refine own_lload (pc' := 467) X53 hx (hb hby at_465) rfl rfl ?_
    refine own_ldc2Long (pc' := 470) X53 hx hZ hown (own_w hw 240 rfl) (hb hby at_467) rfl ?_
    refine own_bipush (pc' := 472) X53 hx (14 : Int32) (hb hby at_470) rfl rfl ?_
    refine own_iload (pc' := 474) X53 hx (hb hby at_472) rfl rfl ?_
    refine own_callS (pc' := 477) (W := 0) (y := (⟨"com/example/ossify/ossify/RefusalDescribePinLaw", "digitOk", "(Ljava/lang/String;IJJII)Z"⟩ : MethodName)) X53 hx hZ hown (own_w hw 224 rfl) (own_w hw 225 rfl) (own_w hw 178 rfl) (own_w hw 226 rfl) (by decide) (con_dg l Z a0 hw t v39 xl (100000000000000 : Int64) (14 : Int32) r33 _ n0 z0 G1 fm hG O0 tb ktb cn _ hE hC hV hA xl.toInt.natAbs 14 hmm rfl (own_dgP hng hus hla (by omega) rfl (by decide) hr33 hul)) e53 pd35 [(.ref t), (.int v39), (.long xl), (.long (100000000000000 : Int64)), (.int (14 : Int32)), (.int r33)] [] rfl rfl rfl (Nat.le_of_eq rfl) (by decide) (by decide) (by rw [hml]; rfl) (hb hby at_474) (by decide) (by decide) rfl ?_
    intro v54 T54 L54 X54 q54
    obtain ⟨r54, rfl, hr54, rfl, e54⟩ := q54
    subst hr54
    have M54 := Fr.nil n0
    have N54 := Fr.app N53 M54
    show own_WP _ _ _ _ _ _ _ (T54.setTop (mkF m 477 #[.val (.long xl), .second, .val (.int i1), .val (.int i2), .val (.int i3), .val (.int rr), .val (.int c0), .val (.int c1), .val (.ref a8), .val (.ref t), .val (.int (1 : Int32)), .val (.long xl), .second, .val (.int r33), .val (.int v34), .val (.int v39), .unset] [(.int (1 : Int32))]))
    refine own_if_eq (pt := 560) (pf := 480) X54 hx (hb hby at_477) rfl (by decide) rfl (fun hc477 => absurd hc477 (by decide)) (fun hc477 => ?_)
    refine own_aload (pc' := 482) X54 hx (hb hby at_480) rfl rfl rfl ?_
    refine own_iload (pc' := 484) X54 hx (hb hby at_482) rfl rfl ?_
    refine own_lload (pc' := 486) X54 hx (hb hby at_484) rfl rfl ?_
    refine own_ldc2Long (pc' := 489) X54 hx hZ hown (own_w hw 241 rfl) (hb hby at_486) rfl ?_
    refine own_bipush (pc' := 491) X54 hx (15 : Int32) (hb hby at_489) rfl rfl ?_
    refine own_iload (pc' := 493) X54 hx (hb hby at_491) rfl rfl ?_
    refine own_callS (pc' := 496) (W := 0) (y := (⟨"com/example/ossify/ossify/RefusalDescribePinLaw", "digitOk", "(Ljava/lang/String;IJJII)Z"⟩ : MethodName)) X54 hx hZ hown (own_w hw 224 rfl) (own_w hw 225 rfl) (own_w hw 178 rfl) (own_w hw 226 rfl) (by decide) (con_dg l Z a0 hw t v39 xl (1000000000000000 : Int64) (15 : Int32) r33 _ n0 z0 G1 fm hG O0 tb ktb cn _ hE hC hV hA xl.toInt.natAbs 15 hmm rfl (own_dgP hng hus hla (by omega) rfl (by decide) hr33 hul)) e54 pd35 [(.ref t), (.int v39), (.long xl), (.long (1000000000000000 : Int64)), (.int (15 : Int32)), (.int r33)] [] rfl rfl rfl (Nat.le_of_eq rfl) (by decide) (by decide) (by rw [hml]; rfl) (hb hby at_493) (by decide) (by decide) rfl ?_
    intro v55 T55 L55 X55 q55
    obtain ⟨r55, rfl, hr55, rfl, e55⟩ := q55
    subst hr55
    have M55 := Fr.nil n0
    have N55 := Fr.app N54 M55
    show own_WP _ _ _ _ _ _ _ (T55.setTop (mkF m 496 #[.val (.long xl), .second, .val (.int i1), .val (.int i2), .val (.int i3), .val (.int rr), .val (.int c0), .val (.int c1), .val (.ref a8), .val (.ref t), .val (.int (1 : Int32)), .val (.long xl), .second, .val (.int r33), .val (.int v34), .val (.int v39), .unset] [(.int (1 : Int32))]))
    refine own_if_eq (pt := 560) (pf := 499) X55 hx (hb hby at_496) rfl (by decide) rfl (fun hc496 => absurd hc496 (by decide)) (fun hc496 => ?_)
    refine own_aload (pc' := 501) X55 hx (hb hby at_499) rfl rfl rfl ?_
    refine own_iload (pc' := 503) X55 hx (hb hby at_501) rfl rfl ?_
    refine own_lload (pc' := 505) X55 hx (hb hby at_503) rfl rfl ?_
    refine own_ldc2Long (pc' := 508) X55 hx hZ hown (own_w hw 242 rfl) (hb hby at_505) rfl ?_
    refine own_bipush (pc' := 510) X55 hx (16 : Int32) (hb hby at_508) rfl rfl ?_
    refine own_iload (pc' := 512) X55 hx (hb hby at_510) rfl rfl ?_
    refine own_callS (pc' := 515) (W := 0) (y := (⟨"com/example/ossify/ossify/RefusalDescribePinLaw", "digitOk", "(Ljava/lang/String;IJJII)Z"⟩ : MethodName)) X55 hx hZ hown (own_w hw 224 rfl) (own_w hw 225 rfl) (own_w hw 178 rfl) (own_w hw 226 rfl) (by decide) (con_dg l Z a0 hw t v39 xl (10000000000000000 : Int64) (16 : Int32) r33 _ n0 z0 G1 fm hG O0 tb ktb cn _ hE hC hV hA xl.toInt.natAbs 16 hmm rfl (own_dgP hng hus hla (by omega) rfl (by decide) hr33 hul)) e55 pd35 [(.ref t), (.int v39), (.long xl), (.long (10000000000000000 : Int64)), (.int (16 : Int32)), (.int r33)] [] rfl rfl rfl (Nat.le_of_eq rfl) (by decide) (by decide) (by rw [hml]; rfl) (hb hby at_512) (by decide) (by decide) rfl ?_
    intro v56 T56 L56 X56 q56
    obtain ⟨r56, rfl, hr56, rfl, e56⟩ := q56
    subst hr56
    have M56 := Fr.nil n0
    have N56 := Fr.app N55 M56
    show own_WP _ _ _ _ _ _ _ (T56.setTop (mkF m 515 #[.val (.long xl), .second, .val (.int i1), .val (.int i2), .val (.int i3), .val (.int rr), .val (.int c0), .val (.int c1), .val (.ref a8), .val (.ref t), .val (.int (1 : Int32)), .val (.long xl), .second, .val (.int r33), .val (.int v34), .val (.int v39), .unset] [(.int (1 : Int32))]))
    refine own_if_eq (pt := 560) (pf := 518) X56 hx (hb hby at_515) rfl (by decide) rfl (fun hc515 => absurd hc515 (by decide)) (fun hc515 => ?_)
    refine own_aload (pc' := 520) X56 hx (hb hby at_518) rfl rfl rfl ?_
    refine own_iload (pc' := 522) X56 hx (hb hby at_520) rfl rfl ?_
    refine own_lload (pc' := 524) X56 hx (hb hby at_522) rfl rfl ?_
    refine own_ldc2Long (pc' := 527) X56 hx hZ hown (own_w hw 243 rfl) (hb hby at_524) rfl ?_
    refine own_bipush (pc' := 529) X56 hx (17 : Int32) (hb hby at_527) rfl rfl ?_
    refine own_iload (pc' := 531) X56 hx (hb hby at_529) rfl rfl ?_
    refine own_callS (pc' := 534) (W := 0) (y := (⟨"com/example/ossify/ossify/RefusalDescribePinLaw", "digitOk", "(Ljava/lang/String;IJJII)Z"⟩ : MethodName)) X56 hx hZ hown (own_w hw 224 rfl) (own_w hw 225 rfl) (own_w hw 178 rfl) (own_w hw 226 rfl) (by decide) (con_dg l Z a0 hw t v39 xl (100000000000000000 : Int64) (17 : Int32) r33 _ n0 z0 G1 fm hG O0 tb ktb cn _ hE hC hV hA xl.toInt.natAbs 17 hmm rfl (own_dgP hng hus hla (by omega) rfl (by decide) hr33 hul)) e56 pd35 [(.ref t), (.int v39), (.long xl), (.long (100000000000000000 : Int64)), (.int (17 : Int32)), (.int r33)] [] rfl rfl rfl (Nat.le_of_eq rfl) (by decide) (by decide) (by rw [hml]; rfl) (hb hby at_531) (by decide) (by decide) rfl ?_
    intro v57 T57 L57 X57 q57
    obtain ⟨r57, rfl, hr57, rfl, e57⟩ := q57
    subst hr57
    have M57 := Fr.nil n0
    have N57 := Fr.app N56 M57
    show own_WP _ _ _ _ _ _ _ (T57.setTop (mkF m 534 #[.val (.long xl), .second, .val (.int i1), .val (.int i2), .val (.int i3), .val (.int rr), .val (.int c0), .val (.int c1), .val (.ref a8), .val (.ref t), .val (.int (1 : Int32)), .val (.long xl), .second, .val (.int r33), .val (.int v34), .val (.int v39), .unset] [(.int (1 : Int32))]))
    refine own_if_eq (pt := 560) (pf := 537) X57 hx (hb hby at_534) rfl (by decide) rfl (fun hc534 => absurd hc534 (by decide)) (fun hc534 => ?_)
    refine own_aload (pc' := 539) X57 hx (hb hby at_537) rfl rfl rfl ?_
    refine own_iload (pc' := 541) X57 hx (hb hby at_539) rfl rfl ?_
    refine own_lload (pc' := 543) X57 hx (hb hby at_541) rfl rfl ?_
    refine own_ldc2Long (pc' := 546) X57 hx hZ hown (own_w hw 244 rfl) (hb hby at_543) rfl ?_
    refine own_bipush (pc' := 548) X57 hx (18 : Int32) (hb hby at_546) rfl rfl ?_
    refine own_iload (pc' := 550) X57 hx (hb hby at_548) rfl rfl ?_
    refine own_callS (pc' := 553) (W := 0) (y := (⟨"com/example/ossify/ossify/RefusalDescribePinLaw", "digitOk", "(Ljava/lang/String;IJJII)Z"⟩ : MethodName)) X57 hx hZ hown (own_w hw 224 rfl) (own_w hw 225 rfl) (own_w hw 178 rfl) (own_w hw 226 rfl) (by decide) (con_dg l Z a0 hw t v39 xl (1000000000000000000 : Int64) (18 : Int32) r33 _ n0 z0 G1 fm hG O0 tb ktb cn _ hE hC hV hA xl.toInt.natAbs 18 hmm rfl (own_dgP hng hus hla (by omega) rfl (by decide) hr33 hul)) e57 pd35 [(.ref t), (.int v39), (.long xl), (.long (1000000000000000000 : Int64)), (.int (18 : Int32)), (.int r33)] [] rfl rfl rfl (Nat.le_of_eq rfl) (by decide) (by decide) (by rw [hml]; rfl) (hb hby at_550) (by decide) (by decide) rfl ?_
    intro v58 T58 L58 X58 q58
    obtain ⟨r58, rfl, hr58, rfl, e58⟩ := q58
    subst hr58
    have M58 := Fr.nil n0
    have N58 := Fr.app N57 M58
    show own_WP _ _ _ _ _ _ _ (T58.setTop (mkF m 553 #[.val (.long xl), .second, .val (.int i1), .val (.int i2), .val (.int i3), .val (.int rr), .val (.int c0), .val (.int c1), .val (.ref a8), .val (.ref t), .val (.int (1 : Int32)), .val (.long xl), .second, .val (.int r33), .val (.int v34), .val (.int v39), .unset] [(.int (1 : Int32))]))
    refine own_if_eq (pt := 560) (pf := 556) X58 hx (hb hby at_553) rfl (by decide) rfl (fun hc553 => absurd hc553 (by decide)) (fun hc553 => ?_)
    refine own_iconst (pc' := 557) X58 hx (1 : Int32) (hb hby at_556) rfl rfl ?_
    refine own_goto (pc' := 561) X58 hx (hb hby at_557) (by decide) rfl ?_
    refine own_istore (pc' := 563) (l' := #[.val (.long xl), .second, .val (.int i1), .val (.int i2), .val (.int i3), .val (.int rr), .val (.int c0), .val (.int c1), .val (.ref a8), .val (.ref t), .val (.int (1 : Int32)), .val (.long xl), .second, .val (.int r33), .val (.int v34), .val (.int v39), .val (.int (1 : Int32))]) X58 hx (hb hby at_561) rfl rfl rfl ?_
    refine own_iload (pc' := 565) X58 hx (hb hby at_563) rfl rfl ?_
    refine own_if_ne (pt := 570) (pf := 568) X58 hx (hb hby at_565) rfl (by decide) rfl (fun hc565 => ?_) (fun hc565 => absurd hc565 (by decide))
    refine own_aload (pc' := 572) X58 hx (hb hby at_570) rfl rfl rfl ?_
    refine own_iload (pc' := 574) X58 hx (hb hby at_572) rfl rfl ?_
    refine own_iconst (pc' := 575) X58 hx (1 : Int32) (hb hby at_574) rfl rfl ?_
    refine own_iadd (pc' := 576) X58 hx (hb hby at_575) rfl ?_
    have hp60 : us = ([.int (114 : Int32), .int (101 : Int32), .int (102 : Int32), .int (117 : Int32), .int (115 : Int32), .int (101 : Int32), .int (100 : Int32), .int (32 : Int32), .int (108 : Int32), .int (105 : Int32), .int (110 : Int32), .int (101 : Int32), .int (32 : Int32)] ++ own_num xl.toInt.natAbs kk ng) ++ .int (58 : Int32) :: (.int (32 : Int32) :: ws) := by rw [hus]; simp
    have ha60 := own_add (z := v39 + (1 : Int32)) rfl (by omega) (by decide)
    have hd60 : (1 : Int32).toInt = 1 := rfl
    have ht60 := own_getat (d := .int (0 : Int32)) hp60 (i := v39 + (1 : Int32)) (z1 := cn) (by simp only [List.length_append, List.length_cons, List.length_nil, hnl]; omega) hul
    refine own_callV (pc' := 579) (W := 0) (y := (⟨"java/lang/String", "charAt", "(I)C"⟩ : MethodName)) (z := (⟨"java/lang/String", "charAt", "(I)C"⟩ : MethodName)) X58 hx hZ hown (own_w hw 202 rfl) (own_w hw 203 rfl) (notFace_of_selects (args := #[]) (mvT hZ (own_w hw 205 rfl))) (own_w hw 205 rfl) (own_w hw 204 rfl) (own_w hw 3 rfl) (own_w hw 206 rfl) (by decide) hE (con_charAt l Z a0 hw t (v39 + (1 : Int32)) _ n0 z0 G1 fm hG O0 tb ktb cn _ hE hC hV hA (58 : Int32) ht60.1 ht60.2) e58 pd33 [(.int (v39 + (1 : Int32)))] [] rfl rfl rfl (Nat.le_of_eq rfl) (by decide) (by decide) (by rw [hml]; rfl) (hb hby at_576) (by decide) (by decide) rfl ?_
    intro v59 T59 L59 X59 q59
    obtain ⟨r59, rfl, hr59, rfl, e59⟩ := q59
    have M59 := Fr.nil n0
    have N59 := Fr.app N58 M59
    show own_WP _ _ _ _ _ _ _ (T59.setTop (mkF m 579 #[.val (.long xl), .second, .val (.int i1), .val (.int i2), .val (.int i3), .val (.int rr), .val (.int c0), .val (.int c1), .val (.ref a8), .val (.ref t), .val (.int (1 : Int32)), .val (.long xl), .second, .val (.int r33), .val (.int v34), .val (.int v39), .val (.int (1 : Int32))] [(.int r59)]))
    refine own_bipush (pc' := 581) X59 hx (58 : Int32) (hb hby at_579) rfl rfl ?_
    refine own_icmp_ne (pt := 598) (pf := 584) X59 hx (hb hby at_581) rfl (by decide) rfl (fun hc581 => absurd (by rw [hr59]; decide) hc581) (fun hc581 => ?_)
    refine own_aload (pc' := 586) X59 hx (hb hby at_584) rfl rfl rfl ?_
    refine own_iload (pc' := 588) X59 hx (hb hby at_586) rfl rfl ?_
    refine own_iconst (pc' := 589) X59 hx (2 : Int32) (hb hby at_588) rfl rfl ?_
    refine own_iadd (pc' := 590) X59 hx (hb hby at_589) rfl ?_
    have hp62 : us = ([.int (114 : Int32), .int (101 : Int32), .int (102 : Int32), .int (117 : Int32), .int (115 : Int32), .int (101 : Int32), .int (100 : Int32), .int (32 : Int32), .int (108 : Int32), .int (105 : Int32), .int (110 : Int32), .int (101 : Int32), .int (32 : Int32)] ++ own_num xl.toInt.natAbs kk ng ++ [.int (58 : Int32)]) ++ .int (32 : Int32) :: (ws) := by rw [hus]; simp
    have ha62 := own_add (z := v39 + (2 : Int32)) rfl (by omega) (by decide)
    have hd62 : (2 : Int32).toInt = 2 := rfl
    have ht62 := own_getat (d := .int (0 : Int32)) hp62 (i := v39 + (2 : Int32)) (z1 := cn) (by simp only [List.length_append, List.length_cons, List.length_nil, hnl]; omega) hul
    refine own_callV (pc' := 593) (W := 0) (y := (⟨"java/lang/String", "charAt", "(I)C"⟩ : MethodName)) (z := (⟨"java/lang/String", "charAt", "(I)C"⟩ : MethodName)) X59 hx hZ hown (own_w hw 202 rfl) (own_w hw 203 rfl) (notFace_of_selects (args := #[]) (mvT hZ (own_w hw 205 rfl))) (own_w hw 205 rfl) (own_w hw 204 rfl) (own_w hw 3 rfl) (own_w hw 206 rfl) (by decide) hE (con_charAt l Z a0 hw t (v39 + (2 : Int32)) _ n0 z0 G1 fm hG O0 tb ktb cn _ hE hC hV hA (32 : Int32) ht62.1 ht62.2) e59 pd33 [(.int (v39 + (2 : Int32)))] [] rfl rfl rfl (Nat.le_of_eq rfl) (by decide) (by decide) (by rw [hml]; rfl) (hb hby at_590) (by decide) (by decide) rfl ?_
    intro v61 T61 L61 X61 q61
    obtain ⟨r61, rfl, hr61, rfl, e61⟩ := q61
    have M61 := Fr.nil n0
    have N61 := Fr.app N59 M61
    show own_WP _ _ _ _ _ _ _ (T61.setTop (mkF m 593 #[.val (.long xl), .second, .val (.int i1), .val (.int i2), .val (.int i3), .val (.int rr), .val (.int c0), .val (.int c1), .val (.ref a8), .val (.ref t), .val (.int (1 : Int32)), .val (.long xl), .second, .val (.int r33), .val (.int v34), .val (.int v39), .val (.int (1 : Int32))] [(.int r61)]))
    refine own_bipush (pc' := 595) X61 hx (32 : Int32) (hb hby at_593) rfl rfl ?_
    refine own_icmp_eq (pt := 600) (pf := 598) X61 hx (hb hby at_595) rfl (by decide) rfl (fun hc595 => ?_) (fun hc595 => absurd (by rw [hr61]; decide) hc595)
    refine own_iload (pc' := 602) X61 hx (hb hby at_600) rfl rfl ?_
    refine own_iconst (pc' := 603) X61 hx (1 : Int32) (hb hby at_602) rfl rfl ?_
    refine own_icmp_lt (pt := 622) (pf := 606) X61 hx (hb hby at_603) rfl (by decide) rfl (fun hc603 => ?_) (fun hc603 => ?_)
    · skip
      refine own_iload (pc' := 624) X61 hx (hb hby at_622) rfl rfl ?_
      refine own_iconst (pc' := 625) X61 hx (2 : Int32) (hb hby at_624) rfl rfl ?_
      refine own_icmp_ne (pt := 644) (pf := 628) X61 hx (hb hby at_625) rfl (by decide) rfl (fun hc625 => ?_) (fun hc625 => absurd hc625 (fun q => by rw [q] at hc603; exact absurd hc603 (by decide)))
      refine own_iconst (pc' := 645) X61 hx (1 : Int32) (hb hby at_644) rfl rfl ?_
      refine own_retN X61 hx (own_FW hS (by rw [e61]; exact kz0)) hlk (t := .boolean) (by decide) hret (hb hby at_645) (by decide) (by decide) ?_
      exact ⟨rfl, N61⟩
    · skip
      obtain ⟨tl, hws0⟩ : ∃ tl, ws = .int (own_by c0) :: tl := by
        rcases hrw with ⟨q1, q2⟩ | ⟨q1, q2⟩ | ⟨q1, q2⟩
        · exact absurd (by rw [q1]; decide) hc603
        · exact ⟨_, q2⟩
        · exact ⟨_, q2⟩
      refine own_aload (pc' := 608) X61 hx (hb hby at_606) rfl rfl rfl ?_
      refine own_iload (pc' := 610) X61 hx (hb hby at_608) rfl rfl ?_
      refine own_iconst (pc' := 611) X61 hx (3 : Int32) (hb hby at_610) rfl rfl ?_
      refine own_iadd (pc' := 612) X61 hx (hb hby at_611) rfl ?_
      have hp64 : us = ([.int (114 : Int32), .int (101 : Int32), .int (102 : Int32), .int (117 : Int32), .int (115 : Int32), .int (101 : Int32), .int (100 : Int32), .int (32 : Int32), .int (108 : Int32), .int (105 : Int32), .int (110 : Int32), .int (101 : Int32), .int (32 : Int32)] ++ own_num xl.toInt.natAbs kk ng ++ [.int (58 : Int32), .int (32 : Int32)]) ++ .int (own_by c0) :: (tl) := by rw [hus, hws0]; simp
      have ha64 := own_add (z := v39 + (3 : Int32)) rfl (by omega) (by decide)
      have hd64 : (3 : Int32).toInt = 3 := rfl
      have ht64 := own_getat (d := .int (0 : Int32)) hp64 (i := v39 + (3 : Int32)) (z1 := cn) (by simp only [List.length_append, List.length_cons, List.length_nil, hnl]; omega) hul
      refine own_callV (pc' := 615) (W := 0) (y := (⟨"java/lang/String", "charAt", "(I)C"⟩ : MethodName)) (z := (⟨"java/lang/String", "charAt", "(I)C"⟩ : MethodName)) X61 hx hZ hown (own_w hw 202 rfl) (own_w hw 203 rfl) (notFace_of_selects (args := #[]) (mvT hZ (own_w hw 205 rfl))) (own_w hw 205 rfl) (own_w hw 204 rfl) (own_w hw 3 rfl) (own_w hw 206 rfl) (by decide) hE (con_charAt l Z a0 hw t (v39 + (3 : Int32)) _ n0 z0 G1 fm hG O0 tb ktb cn _ hE hC hV hA (own_by c0) ht64.1 ht64.2) e61 pd33 [(.int (v39 + (3 : Int32)))] [] rfl rfl rfl (Nat.le_of_eq rfl) (by decide) (by decide) (by rw [hml]; rfl) (hb hby at_612) (by decide) (by decide) rfl ?_
      intro v63 T63 L63 X63 q63
      obtain ⟨r63, rfl, hr63, rfl, e63⟩ := q63
      have M63 := Fr.nil n0
      have N63 := Fr.app N61 M63
      show own_WP _ _ _ _ _ _ _ (T63.setTop (mkF m 615 #[.val (.long xl), .second, .val (.int i1), .val (.int i2), .val (.int i3), .val (.int rr), .val (.int c0), .val (.int c1), .val (.ref a8), .val (.ref t), .val (.int (1 : Int32)), .val (.long xl), .second, .val (.int r33), .val (.int v34), .val (.int v39), .val (.int (1 : Int32))] [(.int r63)]))
      refine own_iload (pc' := 617) X63 hx (hb hby at_615) rfl rfl ?_
      refine own_icmp_eq (pt := 622) (pf := 620) X63 hx (hb hby at_617) rfl (by decide) rfl (fun hc617 => ?_) (fun hc617 => absurd (by rw [hr63]; exact hch0) hc617)
      refine own_iload (pc' := 624) X63 hx (hb hby at_622) rfl rfl ?_
      refine own_iconst (pc' := 625) X63 hx (2 : Int32) (hb hby at_624) rfl rfl ?_
      refine own_icmp_ne (pt := 644) (pf := 628) X63 hx (hb hby at_625) rfl (by decide) rfl (fun hc625 => ?_) (fun hc625 => ?_)
      · skip
        refine own_iconst (pc' := 645) X63 hx (1 : Int32) (hb hby at_644) rfl rfl ?_
        refine own_retN X63 hx (own_FW hS (by rw [e63]; exact kz0)) hlk (t := .boolean) (by decide) hret (hb hby at_645) (by decide) (by decide) ?_
        exact ⟨rfl, N63⟩
      · skip
        have hws1 : ws = [.int (own_by c0), .int (own_by c1)] := by
          rcases hrw with ⟨q1, q2⟩ | ⟨q1, q2⟩ | ⟨q1, q2⟩
          · rw [q1] at hc625; exact absurd hc625 (by decide)
          · rw [q1] at hc625; exact absurd hc625 (by decide)
          · exact q2
        refine own_aload (pc' := 630) X63 hx (hb hby at_628) rfl rfl rfl ?_
        refine own_iload (pc' := 632) X63 hx (hb hby at_630) rfl rfl ?_
        refine own_iconst (pc' := 633) X63 hx (4 : Int32) (hb hby at_632) rfl rfl ?_
        refine own_iadd (pc' := 634) X63 hx (hb hby at_633) rfl ?_
        have hp66 : us = ([.int (114 : Int32), .int (101 : Int32), .int (102 : Int32), .int (117 : Int32), .int (115 : Int32), .int (101 : Int32), .int (100 : Int32), .int (32 : Int32), .int (108 : Int32), .int (105 : Int32), .int (110 : Int32), .int (101 : Int32), .int (32 : Int32)] ++ own_num xl.toInt.natAbs kk ng ++ [.int (58 : Int32), .int (32 : Int32), .int (own_by c0)]) ++ .int (own_by c1) :: ([]) := by rw [hus, hws1]; simp
        have ha66 := own_add (z := v39 + (4 : Int32)) rfl (by omega) (by decide)
        have hd66 : (4 : Int32).toInt = 4 := rfl
        have ht66 := own_getat (d := .int (0 : Int32)) hp66 (i := v39 + (4 : Int32)) (z1 := cn) (by simp only [List.length_append, List.length_cons, List.length_nil, hnl]; omega) hul
        refine own_callV (pc' := 637) (W := 0) (y := (⟨"java/lang/String", "charAt", "(I)C"⟩ : MethodName)) (z := (⟨"java/lang/String", "charAt", "(I)C"⟩ : MethodName)) X63 hx hZ hown (own_w hw 202 rfl) (own_w hw 203 rfl) (notFace_of_selects (args := #[]) (mvT hZ (own_w hw 205 rfl))) (own_w hw 205 rfl) (own_w hw 204 rfl) (own_w hw 3 rfl) (own_w hw 206 rfl) (by decide) hE (con_charAt l Z a0 hw t (v39 + (4 : Int32)) _ n0 z0 G1 fm hG O0 tb ktb cn _ hE hC hV hA (own_by c1) ht66.1 ht66.2) e63 pd33 [(.int (v39 + (4 : Int32)))] [] rfl rfl rfl (Nat.le_of_eq rfl) (by decide) (by decide) (by rw [hml]; rfl) (hb hby at_634) (by decide) (by decide) rfl ?_
        intro v65 T65 L65 X65 q65
        obtain ⟨r65, rfl, hr65, rfl, e65⟩ := q65
        have M65 := Fr.nil n0
        have N65 := Fr.app N63 M65
        show own_WP _ _ _ _ _ _ _ (T65.setTop (mkF m 637 #[.val (.long xl), .second, .val (.int i1), .val (.int i2), .val (.int i3), .val (.int rr), .val (.int c0), .val (.int c1), .val (.ref a8), .val (.ref t), .val (.int (1 : Int32)), .val (.long xl), .second, .val (.int r33), .val (.int v34), .val (.int v39), .val (.int (1 : Int32))] [(.int r65)]))
        refine own_iload (pc' := 639) X65 hx (hb hby at_637) rfl rfl ?_
        refine own_icmp_eq (pt := 644) (pf := 642) X65 hx (hb hby at_639) rfl (by decide) rfl (fun hc639 => ?_) (fun hc639 => absurd (by rw [hr65]; exact hch1) hc639)
        refine own_iconst (pc' := 645) X65 hx (1 : Int32) (hb hby at_644) rfl rfl ?_
        refine own_retN X65 hx (own_FW hS (by rw [e65]; exact kz0)) hlk (t := .boolean) (by decide) hret (hb hby at_645) (by decide) (by decide) ?_
        exact ⟨rfl, N65⟩
theorem pd36 : parseMethodDescriptor "(JLjava/lang/String;)V" = some ⟨[.long, (.object "java/lang/String")], none⟩ := by decide +kernel
set_option maxRecDepth 65536 in
set_option maxHeartbeats 8000000 in
theorem lawM {p : Program} {l : Launch} {e : Env} {s : State} {m : MethodId} {args : Array Value} {below : List Frame} {meth : Method} {c : Code} {Z : State} {a0 : Array Value} (hw : ∀ d ∈ tables_1, d.before a0 Z = true) (hx : p.tables.exec = Jvm.exec) (hby : c.code = code) (hml : c.maxLocals = 17) (hret : meth.sig.returnType = some .boolean) (hlk : meth.locks = false) (G1 : Int32) (fm : Value) (hG : own_G Z G1 fm) (n0 : Nat) (vm0 : Vm) (k0 : Nat) (T0 : State) (hh : Heap) (lc : List Loc) (hown : vm0.findClass "com/example/ossify/ossify/RefusalDescribePinLaw" = some m.cls) (hZ : Z.Warmed39 vm0) (hS : s.Since vm0 k0) (kz0 : k0 ≤ hh.size) (X0 : Stand p l e ({ frames := 10, cells := 40, slots := 3520, locals := 224 } : Room) (s.setVm vm0) m args below meth c T0 lc 10 200) (e0 : T0.heap = hh) (N0 : Fr n0 lc) (O0 : own_Old Z n0 hh) (z0 : n0 ≤ hh.size) (hcw : Jvm.Lit.compactW.before a0 Z = true) (da db : Addr) (ko kt : ClassId) (hD : own_D Z da ko db kt) (hc20 : Jvm.Lit.constHeld Z "com/example/ossify/ossify/AppendReport$Refusal" 20) (hc29 : Jvm.Lit.constHeld Z "com/example/ossify/ossify/AppendReport$Refusal" 29) (Ts : List String) (I0 : IB Z vm0 Ts) (hT1 : "refused line " ∉ Ts) (hT2 : ": " ∉ Ts) (xl : Int64) (i1 i2 i3 rr c0 c1 : Int32) (a8 : Addr) (b8 : Addr) (k8 : ClassId) (z8 : Int32) (ws : List Value) (hE : Exa Z hh a8 "java/lang/String") (hC : Fld Z hh a8 "java/lang/String" "coder" "B" (.int (0 : Int32))) (hV : Fld Z hh a8 "java/lang/String" "value" "[B" (.ref b8)) (hA : Arv Z hh b8 k8 .byte z8 ws (.int (0 : Int32))) (hz8 : z8 = rr) (hrw : (rr = 0 ∧ ws = []) ∨ (rr = 1 ∧ ws = [.int (own_by c0)]) ∨ (rr = 2 ∧ ws = [.int (own_by c0), .int (own_by c1)])) (hch0 : own_ch (own_by c0) = c0) (hch1 : own_ch (own_by c1) = c1) :
    own_WP p e below (ReturnedEndW s) (fun v h L => v = some (.int 1) ∧ Fr n0 L) 40 3520 (T0.setTop (mkF m 83 #[.val (.long xl), .second, .val (.int i1), .val (.int i2), .val (.int i3), .val (.int rr), .val (.int c0), .val (.int c1), .val (.ref a8), .unset, .unset, .unset, .unset, .unset, .unset, .unset, .unset] [])) := by
  have hwS := own_wS hw
  subst hz8
  have hzr : 0 ≤ z8.toInt ∧ z8.toInt ≤ 2 := by rcases hrw with ⟨q1, q2⟩ | ⟨q1, q2⟩ | ⟨q1, q2⟩ <;> rw [q1] <;> decide
  have hwsl : ws.length = z8.toNatClampNeg := by rcases hrw with ⟨q1, q2⟩ | ⟨q1, q2⟩ | ⟨q1, q2⟩ <;> rw [q1, q2] <;> rfl
  refine own_new (pc' := 86) X0 hx hZ hown (own_w hw 23 rfl) (own_w hw 24 rfl) (own_w hw 25 rfl) e0 (hb hby at_83) (by decide) (by decide) rfl ?_
  intro T1 h1 b1 g1 X1 e1 E1 A1 D1
  have ne_a8_b1 : a8 ≠ b1 := Nat.ne_of_lt (Nat.lt_of_lt_of_le hE.lt (Nat.le_of_eq g1.symm))
  have ne_b8_b1 : b8 ≠ b1 := Nat.ne_of_lt (Nat.lt_of_lt_of_le hA.lt (Nat.le_of_eq g1.symm))
  have g_b1 : n0 ≤ b1 := Nat.le_trans z0 (Nat.le_of_eq g1.symm)
  have o1 : own_Old Z n0 h1 := O0.ext E1
  have kz1 := Nat.le_trans kz0 E1.1
  have z1 : n0 ≤ h1.size := Nat.le_trans z0 E1.1
  have F1_line : Fld Z h1 b1 "com/example/ossify/ossify/AppendReport$Refusal" "line" "J" (.long (0 : Int64)) := D1 (Or.inr (own_w hw 36 rfl)) (ty := .long) (by decide)
  have F1_reason : Fld Z h1 b1 "com/example/ossify/ossify/AppendReport$Refusal" "reason" "Ljava/lang/String;" .null := D1 (Or.inr (own_w hw 38 rfl)) (ty := (.object "java/lang/String")) (by decide +kernel)
  refine own_dup (pc' := 87) X1 hx (hb hby at_86) rfl rfl ?_
  refine own_lloadN (pc' := 88) X1 hx (hb hby at_87) rfl rfl ?_
  refine own_aload (pc' := 90) X1 hx (hb hby at_88) rfl rfl rfl ?_
  refine own_callN (pc' := 93) (W := 1) (y := (⟨"com/example/ossify/ossify/AppendReport$Refusal", "<init>", "(JLjava/lang/String;)V"⟩ : MethodName)) X1 hx hZ rfl hown (own_w hw 26 rfl) (own_w hw 27 rfl) (own_w hw 25 rfl) (own_w hw 28 rfl) (by decide) (con_ri l Z a0 hw b1 xl a8 _ n0 z1 A1 F1_line F1_reason g_b1) e1 pd36 b1 [(.long xl), (.ref a8)] [(.ref b1)] rfl rfl rfl (Nat.le_of_eq rfl) (by decide) (by decide) (by rw [hml]; rfl) (hb hby at_90) (by decide) (by decide) rfl ?_
  intro v2 T2 L2 X2 q2
  obtain ⟨rfl, M2, K2, E2q, F2a, F2b⟩ := q2
  obtain ⟨h2, e2⟩ : ∃ z, z = T2.heap := ⟨_, rfl⟩
  rw [← e2] at K2 E2q F2a F2b
  have e2 := e2.symm
  have o2 : own_Old Z n0 h2 := o1.keep K2 (allS g_b1 all0)
  have kz2 := Nat.le_trans kz1 K2.1
  have z2 : n0 ≤ h2.size := Nat.le_trans z1 K2.1
  have N2 := Fr.app N0 M2
  show own_WP _ _ _ _ _ _ _ (T2.setTop (mkF m 93 #[.val (.long xl), .second, .val (.int i1), .val (.int i2), .val (.int i3), .val (.int z8), .val (.int c0), .val (.int c1), .val (.ref a8), .unset, .unset, .unset, .unset, .unset, .unset, .unset, .unset] [(.ref b1)]))
  have f4 := ((hE.ext E1).keep K2)
  have f5 := ((hC.ext E1).keep K2 (ninS ne_a8_b1 nin0))
  have f6 := ((hV.ext E1).keep K2 (ninS ne_a8_b1 nin0))
  have f7 := ((hA.ext E1).keep K2 (ninS ne_b8_b1 nin0))
  refine own_callVW (pc' := 96) (W := 0) (y := (⟨"com/example/ossify/ossify/AppendReport$Refusal", "describe", "()Ljava/lang/String;"⟩ : MethodName)) (z := (⟨"com/example/ossify/ossify/AppendReport$Refusal", "describe", "()Ljava/lang/String;"⟩ : MethodName)) X2 hx hZ hown (own_w hw 39 rfl) (own_w hw 40 rfl) (notFace_of_selects (args := #[]) (mvT (s := s.setVm _) hZ (own_w hw 42 rfl))) (own_w hw 42 rfl) (own_w hw 41 rfl) (own_w hw 25 rfl) (own_w hw 43 rfl) (by decide) E2q (con_de l Z a0 hw b1 _ G1 fm hG ⟨o2.1, o2.x.1⟩ hcw da db ko kt hD hc20 hc29 _ hT1 hT2 xl E2q a8 b8 k8 z8 ws f4 f5 f6 f7 hwsl hzr F2a F2b) e2 I0 hS kz2 pd32 [] [] rfl rfl rfl (Nat.le_of_eq rfl) (by decide) (by decide) (by rw [hml]; rfl) (hb hby at_93) (by decide) (by decide) rfl ?_
  intro v3 T3 L3 kq3 X3 hS kz3 hZ hown I3 q3
  obtain ⟨t3, c3, k3, cn, us, kk, ng, rfl, M3, K3, st3, s3, E3q, F3a, F3b, V3, hkk, hngx, hcn, hus⟩ := q3
  obtain ⟨h3, e3⟩ : ∃ z, z = T3.heap := ⟨_, rfl⟩
  rw [← e3] at K3 E3q F3a F3b V3 kz3
  have e3 := e3.symm
  have o3 : own_Old Z n0 h3 := o2.keep K3 all0
  have z3 : n0 ≤ h3.size := Nat.le_trans z2 K3.1
  have M3 : Fr n0 L3 := fun y q => Nat.le_trans z2 (M3 y q)
  have N3 := Fr.app N2 M3
  show own_WP _ _ _ _ _ _ _ (T3.setTop (mkF m 96 #[.val (.long xl), .second, .val (.int i1), .val (.int i2), .val (.int i3), .val (.int z8), .val (.int c0), .val (.int c1), .val (.ref a8), .unset, .unset, .unset, .unset, .unset, .unset, .unset, .unset] [(.ref t3)]))
  refine own_astore (pc' := 98) (l' := #[.val (.long xl), .second, .val (.int i1), .val (.int i2), .val (.int i3), .val (.int z8), .val (.int c0), .val (.int c1), .val (.ref a8), .val (.ref t3), .unset, .unset, .unset, .unset, .unset, .unset, .unset]) X3 hx (hb hby at_96) rfl rfl rfl ?_
  exact lawT hw hx hby hml hret hlk G1 fm hG n0 _ _ _ _ _ hown hZ hS kz3 (X3.more (by decide) (by decide)) e3 N3 o3 z3 xl i1 i2 i3 z8 c0 c1 a8 t3 c3 k3 cn us E3q F3a F3b V3 ws kk ng hkk hngx hcn hus hrw hch0 hch1
theorem ef_law (m : MethodId) (xl : Int64) (i1 : Int32) (i2 : Int32) (i3 : Int32) : entryFrame m #[(.long xl), (.int i1), (.int i2), (.int i3)] 17 = mkF m 0 #[.val (.long xl), .second, .val (.int i1), .val (.int i2), .val (.int i3), .unset, .unset, .unset, .unset, .unset, .unset, .unset, .unset, .unset, .unset, .unset, .unset] [] := by first | (simp [entryFrame, mkF, argsToLocals, Value.category]; done) | rfl
theorem pd37 : parseMethodDescriptor "([C)V" = some ⟨[(.array .char)], none⟩ := by decide +kernel
theorem pd38 : parseMethodDescriptor "(C)Ljava/lang/String;" = some ⟨[.char], some (.object "java/lang/String")⟩ := by decide +kernel
set_option maxRecDepth 65536 in
set_option maxHeartbeats 4000000 in
theorem con_law (l : Launch) (Z : State) (a0 : Array Value) (hw : ∀ d ∈ tables_1, d.before a0 Z = true) (xl : Int64) (i1 : Int32) (i2 : Int32) (i3 : Int32) (h0 : Heap) (n0 : Nat) (Z0 : n0 ≤ h0.size) (G1 : Int32) (fm : Value) (hG : own_G Z G1 fm) (X00 : own_Old Z n0 h0) (hcw : Jvm.Lit.compactW.before a0 Z = true) (da db : Addr) (ko kt : ClassId) (hD : own_D Z da ko db kt) (hc20 : Jvm.Lit.constHeld Z "com/example/ossify/ossify/AppendReport$Refusal" 20) (hc29 : Jvm.Lit.constHeld Z "com/example/ossify/ossify/AppendReport$Refusal" 29) (hc7 : Jvm.Lit.constHeld Z "java/lang/String" 7) :
    own_ConR l Z x code maxLocals ret ({ frames := 10, cells := 40, slots := 3520, locals := 224 } : Room) #[(.long xl), (.int i1), (.int i2), (.int i3)] h0 (fun v h L => v = some (.int 1) ∧ Fr n0 L) := by
  refine own_ConR_of pn_0 ?_
  intro p e s vm0 m below meth c s₁ X0 hx hby hml hret hlk hnm hown hZ e0 hsh I0 hS
  have hown : vm0.findClass "com/example/ossify/ossify/RefusalDescribePinLaw" = some m.cls := hown
  have hml : c.maxLocals = 17 := hml
  have hret : meth.sig.returnType = some .boolean := hret
  have N0 := Fr.nil n0
  have hwS := own_wS hw
  have kz0 : h0.size ≤ h0.size := Nat.le_refl _
  show own_WP _ _ _ _ _ _ _ (s₁.setTop (entryFrame m #[(.long xl), (.int i1), (.int i2), (.int i3)] 17))
  rw [ef_law m xl i1 i2 i3]
  refine own_iload (pc' := 2) X0 hx (hb hby at_0) rfl rfl ?_
  refine own_ldcInt (pc' := 4) X0 hx hZ hown (own_w hw 0 rfl) (hb hby at_2) rfl ?_
  refine own_iand (pc' := 5) X0 hx (hb hby at_4) rfl ?_
  refine own_iconst (pc' := 6) X0 hx (3 : Int32) (hb hby at_5) rfl rfl ?_
  refine own_irem (pc' := 7) X0 hx (hb hby at_6) (by decide) rfl ?_
  obtain ⟨v1, hv1⟩ : ∃ z : Int32, z = ((i3 &&& (2147483647 : Int32)) % (3 : Int32)) := ⟨_, rfl⟩
  refine own_istore (pc' := 9) (l' := #[.val (.long xl), .second, .val (.int i1), .val (.int i2), .val (.int i3), .val (.int v1), .unset, .unset, .unset, .unset, .unset, .unset, .unset, .unset, .unset, .unset, .unset]) X0 hx (hb hby at_7) hv1 rfl rfl ?_
  refine own_iloadN (pc' := 10) X0 hx (hb hby at_9) rfl rfl ?_
  refine own_sipush (pc' := 13) X0 hx (255 : Int32) (hb hby at_10) rfl rfl ?_
  refine own_iand (pc' := 14) X0 hx (hb hby at_13) rfl ?_
  refine own_i2c (pc' := 15) X0 hx (hb hby at_14) rfl ?_
  rw [i2c_mask]
  obtain ⟨v2, hv2⟩ : ∃ z : Int32, z = (i1 &&& (255 : Int32)) := ⟨_, rfl⟩
  refine own_istore (pc' := 17) (l' := #[.val (.long xl), .second, .val (.int i1), .val (.int i2), .val (.int i3), .val (.int v1), .val (.int v2), .unset, .unset, .unset, .unset, .unset, .unset, .unset, .unset, .unset, .unset]) X0 hx (hb hby at_15) hv2 rfl rfl ?_
  refine own_iloadN (pc' := 18) X0 hx (hb hby at_17) rfl rfl ?_
  refine own_sipush (pc' := 21) X0 hx (255 : Int32) (hb hby at_18) rfl rfl ?_
  refine own_iand (pc' := 22) X0 hx (hb hby at_21) rfl ?_
  refine own_i2c (pc' := 23) X0 hx (hb hby at_22) rfl ?_
  rw [i2c_mask]
  obtain ⟨v3, hv3⟩ : ∃ z : Int32, z = (i2 &&& (255 : Int32)) := ⟨_, rfl⟩
  refine own_istore (pc' := 25) (l' := #[.val (.long xl), .second, .val (.int i1), .val (.int i2), .val (.int i3), .val (.int v1), .val (.int v2), .val (.int v3), .unset, .unset, .unset, .unset, .unset, .unset, .unset, .unset, .unset]) X0 hx (hb hby at_23) hv3 rfl rfl ?_
  have hm_v2 := own_m255 i1
  rw [← hv2] at hm_v2
  have hch_v2 := own_chby hm_v2
  have hnr_v2 : nar .char v2 = v2 := by rw [hv2]; exact own_ch_n i1
  have hlt_v2 : ¬ (255 : Int32) < v2 := by rw [Int32.lt_iff_toInt_lt]; show ¬ (255 : Int) < _; omega
  have hm_v3 := own_m255 i2
  rw [← hv3] at hm_v3
  have hch_v3 := own_chby hm_v3
  have hnr_v3 : nar .char v3 = v3 := by rw [hv3]; exact own_ch_n i2
  have hlt_v3 : ¬ (255 : Int32) < v3 := by rw [Int32.lt_iff_toInt_lt]; show ¬ (255 : Int) < _; omega
  have hr3 := own_r3 i3
  rw [← hv1] at hr3
  refine own_iload (pc' := 27) X0 hx (hb hby at_25) rfl rfl ?_
  refine own_if_ne (pt := 45) (pf := 30) X0 hx (hb hby at_27) rfl (by decide) rfl (fun hc27 => ?_) (fun hc27 => ?_)
  · skip
    refine own_iload (pc' := 47) X0 hx (hb hby at_45) rfl rfl ?_
    refine own_iconst (pc' := 48) X0 hx (1 : Int32) (hb hby at_47) rfl rfl ?_
    refine own_icmp_ne (pt := 61) (pf := 51) X0 hx (hb hby at_48) rfl (by decide) rfl (fun hc48 => ?_) (fun hc48 => ?_)
    · skip
      obtain rfl : v1 = 2 := hr3.elim (fun q => absurd q hc27) (fun q => q.elim (fun q => absurd q hc48) id)
      have hc1 := hlt_v2
      have hc2 := hlt_v3
      show own_WP _ _ _ _ _ _ _ (s₁.setTop (mkF m 61 #[.val (.long xl), .second, .val (.int i1), .val (.int i2), .val (.int i3), .val (.int (2 : Int32)), .val (.int v2), .val (.int v3), .unset, .unset, .unset, .unset, .unset, .unset, .unset, .unset, .unset] []))
      refine own_new (pc' := 64) X0 hx hZ hown (own_w hw 1 rfl) (own_w hw 2 rfl) (own_w hw 3 rfl) e0 (hb hby at_61) (by decide) (by decide) rfl ?_
      intro T4 h4 b4 g4 X4 e4 E4 A4 D4
      have g_b4 : n0 ≤ b4 := Nat.le_trans Z0 (Nat.le_of_eq g4.symm)
      have o4 : own_Old Z n0 h4 := X00.ext E4
      have kz4 := Nat.le_trans kz0 E4.1
      have z4 : n0 ≤ h4.size := Nat.le_trans Z0 E4.1
      have F4_value : Fld Z h4 b4 "java/lang/String" "value" "[B" .null := D4 (Or.inr (own_w hw 17 rfl)) (ty := (.array .byte)) (by decide +kernel)
      have F4_coder : Fld Z h4 b4 "java/lang/String" "coder" "B" (.int (0 : Int32)) := D4 (Or.inr (own_w hw 18 rfl)) (ty := .byte) (by decide)
      refine own_dup (pc' := 65) X4 hx (hb hby at_64) rfl rfl ?_
      refine own_iconst (pc' := 66) X4 hx (2 : Int32) (hb hby at_65) rfl rfl ?_
      refine own_newP (pc' := 68) (cap := 2) X4 hx hZ (own_w hw 4 rfl) e4 (hb hby at_66) (by decide) (by decide) (by decide) (by decide) (by decide) rfl ?_
      intro T5 h5 k5 b5 g5 X5 e5 E5 A5
      have ne_b4_b5 : b4 ≠ b5 := Nat.ne_of_lt (Nat.lt_of_lt_of_le A4.lt (Nat.le_of_eq g5.symm))
      have ne_b5_b4 := ne_b4_b5.symm
      have g_b5 : n0 ≤ b5 := Nat.le_trans z4 (Nat.le_of_eq g5.symm)
      have o5 : own_Old Z n0 h5 := o4.ext E5
      have kz5 := Nat.le_trans kz4 E5.1
      have z5 : n0 ≤ h5.size := Nat.le_trans z4 E5.1
      have V5 : Arv Z h5 b5 k5 .char (2 : Int32) [(.int (0 : Int32)), (.int (0 : Int32))] (.int (0 : Int32)) := (Arv.new A5 (by decide)).pad (pad_rep [] (.int (0 : Int32)) 2)
      refine own_dup (pc' := 69) X5 hx (hb hby at_68) rfl rfl ?_
      refine own_iconst (pc' := 70) X5 hx (0 : Int32) (hb hby at_69) rfl rfl ?_
      refine own_iload (pc' := 72) X5 hx (hb hby at_70) rfl rfl ?_
      refine own_castore (pc' := 73) X5 hx hZ e5 V5 ⟨by decide, by decide⟩ 0 rfl (Nat.le_of_ble_eq_true rfl) (hb hby at_72) rfl ?_
      intro T6 h6 X6 e6 W6 V6
      have o6 : own_Old Z n0 h6 := o5.wr W6 g_b5
      have kz6 := Nat.le_trans kz5 (Keep.of_wr W6).1
      have z6 : n0 ≤ h6.size := Nat.le_trans z5 (Keep.of_wr W6).1
      have V6 : Arv Z h6 b5 k5 .char (2 : Int32) [(.int (nar .char v2)), (.int (0 : Int32))] (.int (0 : Int32)) := V6
      have N6 := Fr.snoc X6 N0 g_b5
      rw [hnr_v2] at V6
      refine own_dup (pc' := 74) X6 hx (hb hby at_73) rfl rfl ?_
      refine own_iconst (pc' := 75) X6 hx (1 : Int32) (hb hby at_74) rfl rfl ?_
      refine own_iload (pc' := 77) X6 hx (hb hby at_75) rfl rfl ?_
      refine own_castore (pc' := 78) X6 hx hZ e6 V6 ⟨by decide, by decide⟩ 1 rfl (Nat.le_of_ble_eq_true rfl) (hb hby at_77) rfl ?_
      intro T7 h7 X7 e7 W7 V7
      have o7 : own_Old Z n0 h7 := o6.wr W7 g_b5
      have kz7 := Nat.le_trans kz6 (Keep.of_wr W7).1
      have z7 : n0 ≤ h7.size := Nat.le_trans z6 (Keep.of_wr W7).1
      have V7 : Arv Z h7 b5 k5 .char (2 : Int32) [(.int v2), (.int (nar .char v3))] (.int (0 : Int32)) := V7
      have N7 := Fr.snoc X7 N6 g_b5
      rw [hnr_v3] at V7
      have f9 := (((A4.ext E5).wr W6).wr W7)
      have f10 := (((F4_coder.ext E5).other W6 (Or.inl ne_b4_b5)).other W7 (Or.inl ne_b4_b5))
      have f11 := (((F4_value.ext E5).other W6 (Or.inl ne_b4_b5)).other W7 (Or.inl ne_b4_b5))
      refine own_callN (pc' := 81) (W := 1) (y := (⟨"java/lang/String", "<init>", "([C)V"⟩ : MethodName)) X7 hx hZ rfl hown (own_w hw 5 rfl) (own_w hw 6 rfl) (own_w hw 3 rfl) (own_w hw 7 rfl) (by decide) (con_n1 l Z a0 hw b4 b5 _ n0 z7 G1 fm hG o7 v2 v3 _ V7 hc1 hc2 _ _ f9 f10 f11 g_b4 ne_b4_b5 ne_b5_b4) e7 pd37 b4 [(.ref b5)] [(.ref b4)] rfl rfl rfl (Nat.le_of_eq rfl) (by decide) (by decide) (by rw [hml]; rfl) (hb hby at_78) (by decide) (by decide) rfl ?_
      intro v8 T8 L8 X8 q8
      obtain ⟨c8, k8, rfl, M8, K8, s8, E8q, F8a, F8b, V8⟩ := q8
      obtain ⟨h8, e8⟩ : ∃ z, z = T8.heap := ⟨_, rfl⟩
      rw [← e8] at K8 E8q F8a F8b V8
      have e8 := e8.symm
      have o8 : own_Old Z n0 h8 := o7.keep K8 (allS g_b4 all0)
      have kz8 := Nat.le_trans kz7 K8.1
      have z8 : n0 ≤ h8.size := Nat.le_trans z7 K8.1
      have N8 := Fr.app N7 M8
      show own_WP _ _ _ _ _ _ _ (T8.setTop (mkF m 81 #[.val (.long xl), .second, .val (.int i1), .val (.int i2), .val (.int i3), .val (.int (2 : Int32)), .val (.int v2), .val (.int v3), .unset, .unset, .unset, .unset, .unset, .unset, .unset, .unset, .unset] [(.ref b4)]))
      refine own_astore (pc' := 83) (l' := #[.val (.long xl), .second, .val (.int i1), .val (.int i2), .val (.int i3), .val (.int (2 : Int32)), .val (.int v2), .val (.int v3), .val (.ref b4), .unset, .unset, .unset, .unset, .unset, .unset, .unset, .unset]) X8 hx (hb hby at_81) rfl rfl rfl ?_
      exact lawM hw hx hby hml hret hlk G1 fm hG n0 _ _ _ _ _ hown hZ hS kz8 (X8.more (by decide) (by decide)) e8 N8 o8 z8 hcw da db ko kt hD hc20 hc29 [] I0 (by decide +kernel) (by decide +kernel) xl i1 i2 i3 (2 : Int32) v2 v3 b4 c8 k8 (2 : Int32) _ E8q F8a F8b V8 rfl (Or.inr (Or.inr ⟨rfl, rfl⟩)) hch_v2 hch_v3
    · skip
      subst hc48
      have hc := hlt_v2
      show own_WP _ _ _ _ _ _ _ (s₁.setTop (mkF m 51 #[.val (.long xl), .second, .val (.int i1), .val (.int i2), .val (.int i3), .val (.int (1 : Int32)), .val (.int v2), .val (.int v3), .unset, .unset, .unset, .unset, .unset, .unset, .unset, .unset, .unset] []))
      refine own_iload (pc' := 53) X0 hx (hb hby at_51) rfl rfl ?_
      refine own_callS (pc' := 56) (W := 0) (y := (⟨"java/lang/String", "valueOf", "(C)Ljava/lang/String;"⟩ : MethodName)) X0 hx hZ hown (own_w hw 245 rfl) (own_w hw 246 rfl) (own_w hw 3 rfl) (own_w hw 247 rfl) (by decide) (con_vo l Z a0 hw v2 _ n0 Z0 G1 fm hG X00 hc) e0 pd38 [(.int v2)] [] rfl rfl rfl (Nat.le_of_eq rfl) (by decide) (by decide) (by rw [hml]; rfl) (hb hby at_53) (by decide) (by decide) rfl ?_
      intro v12 T12 L12 X12 q12
      obtain ⟨t12, c12, k12, rfl, M12, K12, st12, s12, E12q, F12a, F12b, V12⟩ := q12
      obtain ⟨h12, e12⟩ : ∃ z, z = T12.heap := ⟨_, rfl⟩
      rw [← e12] at K12 E12q F12a F12b V12
      have e12 := e12.symm
      have o12 : own_Old Z n0 h12 := X00.keep K12 all0
      have kz12 := Nat.le_trans kz0 K12.1
      have z12 : n0 ≤ h12.size := Nat.le_trans Z0 K12.1
      have N12 := Fr.app N0 M12
      show own_WP _ _ _ _ _ _ _ (T12.setTop (mkF m 56 #[.val (.long xl), .second, .val (.int i1), .val (.int i2), .val (.int i3), .val (.int (1 : Int32)), .val (.int v2), .val (.int v3), .unset, .unset, .unset, .unset, .unset, .unset, .unset, .unset, .unset] [(.ref t12)]))
      refine own_astore (pc' := 58) (l' := #[.val (.long xl), .second, .val (.int i1), .val (.int i2), .val (.int i3), .val (.int (1 : Int32)), .val (.int v2), .val (.int v3), .val (.ref t12), .unset, .unset, .unset, .unset, .unset, .unset, .unset, .unset]) X12 hx (hb hby at_56) rfl rfl rfl ?_
      refine own_goto (pc' := 83) X12 hx (hb hby at_58) (by decide) rfl ?_
      exact lawM hw hx hby hml hret hlk G1 fm hG n0 _ _ _ _ _ hown hZ hS kz12 (X12.more (by decide) (by decide)) e12 N12 o12 z12 hcw da db ko kt hD hc20 hc29 [] I0 (by decide +kernel) (by decide +kernel) xl i1 i2 i3 (1 : Int32) v2 v3 t12 c12 k12 (1 : Int32) _ E12q F12a F12b V12 rfl (Or.inr (Or.inl ⟨rfl, rfl⟩)) hch_v2 hch_v3
  · skip
    subst hc27
    show own_WP _ _ _ _ _ _ _ (s₁.setTop (mkF m 30 #[.val (.long xl), .second, .val (.int i1), .val (.int i2), .val (.int i3), .val (.int (0 : Int32)), .val (.int v2), .val (.int v3), .unset, .unset, .unset, .unset, .unset, .unset, .unset, .unset, .unset] []))
    refine own_new (pc' := 33) X0 hx hZ hown (own_w hw 1 rfl) (own_w hw 2 rfl) (own_w hw 3 rfl) e0 (hb hby at_30) (by decide) (by decide) rfl ?_
    intro T13 h13 b13 g13 X13 e13 E13 A13 D13
    have g_b13 : n0 ≤ b13 := Nat.le_trans Z0 (Nat.le_of_eq g13.symm)
    have o13 : own_Old Z n0 h13 := X00.ext E13
    have kz13 := Nat.le_trans kz0 E13.1
    have z13 : n0 ≤ h13.size := Nat.le_trans Z0 E13.1
    have F13_value : Fld Z h13 b13 "java/lang/String" "value" "[B" .null := D13 (Or.inr (own_w hw 17 rfl)) (ty := (.array .byte)) (by decide +kernel)
    have F13_coder : Fld Z h13 b13 "java/lang/String" "coder" "B" (.int (0 : Int32)) := D13 (Or.inr (own_w hw 18 rfl)) (ty := .byte) (by decide)
    refine own_dup (pc' := 34) X13 hx (hb hby at_33) rfl rfl ?_
    refine own_iconst (pc' := 35) X13 hx (0 : Int32) (hb hby at_34) rfl rfl ?_
    refine own_newP (pc' := 37) (cap := 0) X13 hx hZ (own_w hw 4 rfl) e13 (hb hby at_35) (by decide) (by decide) (by decide) (by decide) (by decide) rfl ?_
    intro T14 h14 k14 b14 g14 X14 e14 E14 A14
    have o14 : own_Old Z n0 h14 := o13.ext E14
    have kz14 := Nat.le_trans kz13 E14.1
    have z14 : n0 ≤ h14.size := Nat.le_trans z13 E14.1
    have V14 : Arv Z h14 b14 k14 .char (0 : Int32) [] (.int (0 : Int32)) := (Arv.new A14 (by decide)).pad (pad_rep [] (.int (0 : Int32)) 0)
    have f16 := (A13.ext E14)
    have f17 := (F13_coder.ext E14)
    have f18 := (F13_value.ext E14)
    refine own_callNW (pc' := 40) (W := 1) (y := (⟨"java/lang/String", "<init>", "([C)V"⟩ : MethodName)) X14 hx hZ rfl hown (own_w hw 5 rfl) (own_w hw 6 rfl) (own_w hw 3 rfl) (own_w hw 7 rfl) (by decide) (con_e1 l Z a0 hw b13 b14 _ n0 z14 G1 fm hG o14 hcw hc7 _ (by decide +kernel) f16 f17 f18 g_b13 _ V14) e14 I0 hS kz14 pd37 [(.ref b14)] [(.ref b13)] rfl rfl rfl (Nat.le_of_eq rfl) (by decide) (by decide) (by rw [hml]; rfl) (hb hby at_37) (by decide) (by decide) rfl ?_
    intro v15 T15 L15 kq15 X15 hS kz15 hZ hown I15 q15
    obtain ⟨c15, k15, rfl, M15, K15, E15q, F15a, F15b, V15⟩ := q15
    obtain ⟨h15, e15⟩ : ∃ z, z = T15.heap := ⟨_, rfl⟩
    rw [← e15] at K15 E15q F15a F15b V15 kz15
    have e15 := e15.symm
    have o15 : own_Old Z n0 h15 := o14.keep K15 (allS g_b13 all0)
    have z15 : n0 ≤ h15.size := Nat.le_trans z14 K15.1
    have N15 := Fr.app N0 M15
    show own_WP _ _ _ _ _ _ _ (T15.setTop (mkF m 40 #[.val (.long xl), .second, .val (.int i1), .val (.int i2), .val (.int i3), .val (.int (0 : Int32)), .val (.int v2), .val (.int v3), .unset, .unset, .unset, .unset, .unset, .unset, .unset, .unset, .unset] [(.ref b13)]))
    refine own_astore (pc' := 42) (l' := #[.val (.long xl), .second, .val (.int i1), .val (.int i2), .val (.int i3), .val (.int (0 : Int32)), .val (.int v2), .val (.int v3), .val (.ref b13), .unset, .unset, .unset, .unset, .unset, .unset, .unset, .unset]) X15 hx (hb hby at_40) rfl rfl rfl ?_
    refine own_goto (pc' := 83) X15 hx (hb hby at_42) (by decide) rfl ?_
    exact lawM hw hx hby hml hret hlk G1 fm hG n0 _ _ _ _ _ hown hZ hS kz15 (X15.more (by decide) (by decide)) e15 N15 o15 z15 hcw da db ko kt hD hc20 hc29 [""] I15 (by decide +kernel) (by decide +kernel) xl i1 i2 i3 (0 : Int32) v2 v3 b13 c15 k15 (0 : Int32) _ E15q F15a F15b V15 rfl (Or.inl ⟨rfl, rfl⟩) hch_v2 hch_v3

theorem own_digst {args : Array Value} {s : State} {CI nm : String} {tt : Term} {f : Nat → Int32} (w : (Jvm.Cond.arrayClass .byte).before args s = true) (h1 : (Jvm.Cond.initializedFor CI nm "[B").before args s = true) (h2 : (Jvm.Cond.exactly (.static CI nm "[B") "[B").before args s = true) (h3 : (Jvm.Cond.eq (.length (.static CI nm "[B")) (.int 100)).before args s = true)
    (h4 : (Jvm.Cond.all (.static CI nm "[B") (.eq (.elem (.static CI nm "[B") (.index 0)) tt)).before args s = true) (hf : ∀ j, j < 100 → tt.eval args s none [j] s = some (.int (f j))) (hfit : ∀ j, j < 100 → fits .byte (.int (f j)) = true) :
    ∃ d k, Sta s s.heap CI nm "[B" (.ref d) ∧ Arv s s.heap d k .byte 100 ((List.range 100).map fun i => .int (f i)) (.int 0) := by
  obtain ⟨d, cB, cell, kB, e1, e2, e3, e4, e5, e6, e7⟩ := Cond.exactly_spec h2
  obtain ⟨c2, k2, comp, g1, g2, g3⟩ := Cond.arrayClass_spec w
  have g1 : s.vm.findClass "[B" = some c2 := g1
  cases e2.symm.trans g1
  cases e4.symm.trans g2
  subst e6
  have S := Sta.start e1 (Or.inl h1)
  have hvm : cell.vm ≠ .unknown := by
    intro hu
    obtain ⟨x, y, l1, l2, k1, k2⟩ := cmp_v (Or.inl (Cond.before_iff.mp h3))
    obtain ⟨x2, c3, e8, e9⟩ := Term.length_spec l1
    cases e1.symm.trans e8
    simp [State.arrayAt?, e3, e4, hu] at e9
  have A : Arr s s.heap d cell .byte := ⟨e3, ⟨fun q hq => (by rw [hq] at e5; cases e5), kB, e4, comp, g3⟩, hvm⟩
  have hat := A.fin (Vm.Alike.refl _)
  obtain ⟨hsz, hsize⟩ := IntBox.length_fwd h3 e1 A.1 A.2.1 A.2.2
  have hs100 : cell.slots.size = 100 := by
    have e := len_toInt hsz
    rw [hsize] at e
    have : ((100 : Int32)).toInt = 100 := by decide
    omega
  have hall := Cond.all_elim (c := .eq (.elem (.static CI nm "[B") (.index 0)) tt) e1 hat (by simpa [Cond.before, Cond.holds] using h4)
  have hin : ∀ j, j < 100 → cell.slots[j]? = some (.int (f j)) := by
    intro j hj
    have hv := hall j (by rw [hs100]; exact hj)
    obtain ⟨x, y, l1, l2, k1, k2⟩ := cmp_v (Or.inl hv)
    rw [hf j hj] at l2
    cases l2
    obtain ⟨hnn, hback⟩ := IntBox.place_nonneg j (by omega)
    have ev2 : (Term.static CI nm "[B").eval args s none [j] s = some (.ref d) := by
      simp only [Term.eval] at e1 ⊢
      exact e1
    have ej : (Term.index 0).eval args s none [j] s = some (.int j.toInt32) := by simp [Term.eval]
    have q := elem_in l1 ev2 ej A.1
    rw [hback] at q
    obtain ⟨x', rfl⟩ : ∃ x', x = .int x' := k2
    simp only [Cond.value, l1, hf j hj] at hv
    have e9 : x' = f j := by simpa using hv
    rw [← e9]
    exact q.2
  have hgd : ∀ k, k < 100 → ((List.range 100).map fun i => Value.int (f i)).getD k (.int 0) = .int (f k) := fun k hk => by simp [hk]
  refine ⟨d, _, S, cell, A, rfl, by rw [hs100]; rfl, by decide, ?_, ?_⟩
  · intro k hk
    rw [hs100] at hk
    rw [hgd k hk]; exact hin k hk
  · intro k hk
    rw [hs100] at hk
    rw [hgd k hk]; exact hfit k hk
theorem own_o1 : ∀ j, j < 100 → (48 : Int32) + j.toInt32 % 10 = Int32.ofNat (48 + j % 10) := by decide +kernel
theorem own_o2 : ∀ j, j < 100 → (48 : Int32) + j.toInt32 / 10 = Int32.ofNat (48 + j / 10) := by decide +kernel
theorem own_f1 : ∀ j, j < 100 → fits .byte (.int (Int32.ofNat (48 + j % 10))) = true := by decide +kernel
theorem own_f2 : ∀ j, j < 100 → fits .byte (.int (Int32.ofNat (48 + j / 10))) = true := by decide +kernel

set_option maxRecDepth 65536 in
set_option maxHeartbeats 4000000 in
theorem comes_1 {Post : Tables → Env → Array Value → Jvm.State → Outcome → Jvm.State → Prop} (hpost : ∀ tb e args s v u, (limb_1_1.after args s (.returned v) u = true ∧ limb_1_2.after args s (.returned v) u = true ∧ True) → ReturnedEndW s (.returned v) u (Jvm.fieldLocs frame_1_writes args s ++ Jvm.arrayLocs frame_1_arrays args s ++ Jvm.staticLocs frame_1_statics s) 40 3520 → Post tb e args s (.returned v) u) :
    ArmFor flags0 classFile x code maxLocals ret World_1 tables_1 room_1 Calls_1 rest_1 Pre_1 Post := by
  intro l hfl _ _ p e ha hc hk s m args below hf hA hF happ hP
  obtain ⟨hcalls, hrest, hpre⟩ := hP
  obtain ⟨-, -, -, hnamed, -, -, -, hat⟩ := (Spec.applies_iff hf).mp happ
  obtain ⟨hg, hn⟩ := and_e (Cond.before_iff.mp (show (Jvm.Cond.and given_1 narrow_1).before args s = true from hpre))
  obtain ⟨u1, u2⟩ := and_e hg
  obtain ⟨u3, u4⟩ := and_e u2
  obtain ⟨u5, u6⟩ := and_e u4
  obtain ⟨u7, u8⟩ := and_e u6
  obtain ⟨w0, w1, w2, w3, rfl⟩ : ∃ w0 w1 w2 w3 : Value, args = #[w0, w1, w2, w3] := by
    have hs : args.size = 4 := by simpa [Cond.value, given_1] using u1
    obtain ⟨L⟩ := args
    match L, hs with
    | [w0, w1, w2, w3], _ => exact ⟨w0, w1, w2, w3, rfl⟩
  have hw := fun d (hd : d ∈ tables_1) => atoms_spec (ws := Jvm.Cond.code x code maxLocals ret :: tables_1) hat d (List.mem_cons_of_mem _ hd)
  obtain ⟨hsets, hown0⟩ := atoms_of _ (rest_1_c_eq ▸ (show rest_1_c.before _ s = true from hrest))
  obtain ⟨i0, ei0⟩ := isL_v u3
  obtain rfl : w0 = (.long i0) := Option.some.inj ei0
  obtain ⟨i1, ei1⟩ := is_v u5
  obtain rfl : w1 = (.int i1) := Option.some.inj ei1
  obtain ⟨i2, ei2⟩ := is_v u7
  obtain rfl : w2 = (.int i2) := Option.some.inj ei2
  obtain ⟨i3, ei3⟩ := is_v u8
  obtain rfl : w3 = (.int i3) := Option.some.inj ei3
  obtain ⟨G1, evG⟩ := is_v (Cond.before_iff.mp (hsets _ (List.mem_of_getElem? (i := 1) rfl)))
  have hcw : Jvm.Lit.compactW.before _ s = true := (hsets _ (List.mem_of_getElem? (i := 2) rfl))
  obtain ⟨fm, evF, hfr⟩ := isR_v (Cond.before_iff.mp (hsets _ (List.mem_of_getElem? (i := 8) rfl)))
  have hG1 : ¬ G1 = 0 := fun e => by subst e; simp [Jvm.Lit.compactW, Cond.before, Cond.holds, Cond.value, evG] at hcw; simp [Term.eval] at hcw
  have hG : own_G s G1 fm := ⟨Sta.start evG (Or.inl (hsets _ (List.mem_of_getElem? (i := 0) rfl))), hG1, Sta.start evF (Or.inl (hsets _ (List.mem_of_getElem? (i := 7) rfl))), hfr⟩
  obtain ⟨d1, kd1, sd1, ad1⟩ := own_digst (s := s) (f := fun j => Int32.ofNat (48 + j % 10)) ((own_w hw 16 rfl)) (hsets _ (List.mem_of_getElem? (i := 11) rfl)) (hsets _ (List.mem_of_getElem? (i := 12) rfl)) (hsets _ (List.mem_of_getElem? (i := 13) rfl)) (hsets _ (List.mem_of_getElem? (i := 14) rfl)) (fun j hj => by simp [Term.eval, ← own_o1 j hj]) own_f1
  obtain ⟨d2, kd2, sd2, ad2⟩ := own_digst (s := s) (f := fun j => Int32.ofNat (48 + j / 10)) ((own_w hw 16 rfl)) (hsets _ (List.mem_of_getElem? (i := 16) rfl)) (hsets _ (List.mem_of_getElem? (i := 17) rfl)) (hsets _ (List.mem_of_getElem? (i := 18) rfl)) (hsets _ (List.mem_of_getElem? (i := 19) rfl)) (fun j hj => by simp [Term.eval, ← own_o2 j hj]) own_f2
  have hD : own_D s d1 kd1 d2 kd2 := ⟨sd1, ad1, sd2, ad2⟩
  have hc0_ : Jvm.Lit.constHeld s "com/example/ossify/ossify/AppendReport$Refusal" 20 := hcalls.1 ("com/example/ossify/ossify/AppendReport$Refusal", 20) (by simp [consts_1])
  have hc1_ : Jvm.Lit.constHeld s "com/example/ossify/ossify/AppendReport$Refusal" 29 := hcalls.1 ("com/example/ossify/ossify/AppendReport$Refusal", 29) (by simp [consts_1])
  have hc2_ : Jvm.Lit.constHeld s "java/lang/String" 7 := hcalls.1 ("java/lang/String", 7) (by simp [consts_1])
  obtain ⟨n, o, h1, h2, h3, _, L, rfl, ⟨rfl, N⟩, hq⟩ := con_law l s _ hw i0 i1 i2 i3 s.heap s.heap.size (Nat.le_refl _) G1 fm hG ⟨Old.start s, Nat.le_refl _⟩ hcw d1 d2 kd1 kd2 hD hc0_ hc1_ hc2_ tables_1 p e ha hc hk s m _ below hf ((Spec.applies_iff_loose hf).mp happ).1 ⟨rfl, State.Warmed39.refl s, rfl, IB.start⟩ trivial
  refine ⟨n, _, h1, h2, h3, hpost _ _ _ _ _ _ ⟨Cond.after_iff.mpr rfl, Cond.after_iff.mpr (eq_i res_at (Term.int_eval (1)) rfl), trivial⟩ ⟨hq.1, hq.2.1, hq.2.2.1, (hq.2.2.2.sift fun y hy => Or.inr (N y hy)).mono (by decide) (by decide)⟩⟩
theorem main_1_1 : Claimed_1_1 := comes_1 fun _ _ _ _ _ _ h hF => ⟨h.1, hF⟩
theorem main_1_2 : Claimed_1_2 := comes_1 fun _ _ _ _ _ _ h hF => ⟨h.2.1, hF⟩
end Jvm.Pilot.@@N@@
namespace Jvm.Pilot.@@N@@
open Jvm Jvm.ClassFile Sem Op Lib Jvm.Free Jvm.Stand Jvm.Pilot.@@N@@.Jvm.D
/-! MADE BY PROGRAM (witnessworld.py) out of the Statement's table words and the real class files: 30 classes; the members and pool entries that the words name. The judged class is class 1, her method 1. -/
namespace start1
open Jvm.ClassFile
def u (s : String) : CpInfo := .utf8 (stringToUtf16 s)
/-- a pool by its gaps: so many unusable entries, then the entry; so many at the end -/
def gap : Nat → List CpInfo → List CpInfo
  | 0, r => r
  | n + 1, r => .unusable :: gap n r
def poolList (es : List (Nat × CpInfo)) (last : Nat) : List CpInfo := es.foldr (fun e r => gap e.1 (e.2 :: r)) (gap last [])
def pool (es : List (Nat × CpInfo)) (last : Nat) : Array CpInfo := ⟨poolList es last⟩
def fileOf (pool : Array CpInfo) (this : Nat) (attrs : Array Attribute := #[]) (ms : Array MethodInfo := #[]) (fl : Nat := 33) (sup : Nat := 0) (ifs : Array Nat := #[]) (fds : Array FieldInfo := #[]) : ClassFile where
  minorVersion := 0
  majorVersion := 65
  constantPool := pool
  accessFlags := fl
  thisClass := this
  superClass := sup
  interfaces := ifs
  fields := fds
  methods := ms
  attributes := attrs
def plain (name : String) (sup : Option ClassId) : Class where
  name := name
  kind := .ordinary
  loader := none
  accessFlags := 33
  super := sup
  interfaces := #[]
  cf := none
  fields := #[]
  methods := #[]
  instanceTypes := #[]
  staticTypes := #[]
  resolved := #[]
  callSites := []
  init := .initialized
  statics := none
  mirror := none

def pool0 : Array CpInfo := pool [(5, u "<init>"), (0, u "()V"), (1, .class_ 10), (1, u "java/lang/Object"), (85, u "clone"), (0, u "()Ljava/lang/Object;")] 26

def k0c0 : Code := { maxStack := 0, maxLocals := 1, code := object_method_1_code, exceptionTable := #[], attributes := #[] }
def k0m0 : Method := { name := "<init>", desc := "()V", sig := { parameters := [], returnType := none }, accessFlags := 1, code := some k0c0 }
def k0m1 : Method := { name := "clone", desc := "()Ljava/lang/Object;", sig := { parameters := [], returnType := some (.object "java/lang/Object") }, accessFlags := 260, code := none }
/-- java/lang/Object -/
def k0 : Class := { plain "java/lang/Object" none with
  accessFlags := 33
  interfaces := #[]
  cf := some (fileOf pool0 8 #[] #[{ accessFlags := 1, nameIndex := 5, descriptorIndex := 6, attributes := #[] }, { accessFlags := 260, nameIndex := 96, descriptorIndex := 97, attributes := #[] }] 33 0 #[] #[])
  fields := #[]
  methods := #[k0m0, k0m1]
  instanceTypes := #[]
  staticTypes := #[]
  resolved := Array.replicate 124 none
  statics := none }

def pool1 : Array CpInfo := pool [(2, .class_ 4), (1, u "java/lang/Object"), (0, u "<init>"), (0, u "()V"), (0, .integer 2147483647), (0, .class_ 9), (0, u "java/lang/String"), (0, .methodref 8 11), (0, .nameAndType 5 12), (0, u "([C)V"), (0, .methodref 8 14), (0, .nameAndType 15 16), (0, u "valueOf"), (0, u "(C)Ljava/lang/String;"), (0, .class_ 18), (0, u "com/example/ossify/ossify/AppendReport$Refusal"), (0, .methodref 17 20), (0, .nameAndType 5 21), (0, u "(JLjava/lang/String;)V"), (0, .methodref 17 23), (0, .nameAndType 24 25), (0, u "describe"), (0, u "()Ljava/lang/String;"), (0, .methodref 27 28), (0, .class_ 29), (0, .nameAndType 30 31), (0, u "com/example/ossify/ossify/RefusalDescribePinLaw"), (0, u "countDigits"), (0, u "(J)I"), (0, .methodref 8 33), (0, .nameAndType 34 35), (0, u "length"), (0, u "()I"), (0, .methodref 27 37), (0, .nameAndType 38 39), (0, u "prefixOk"), (0, u "(Ljava/lang/String;)Z"), (0, .methodref 8 41), (0, .nameAndType 42 43), (0, u "charAt"), (0, u "(I)C"), (0, .methodref 27 45), (0, .nameAndType 46 47), (0, u "digitOk"), (0, u "(Ljava/lang/String;IJJII)Z"), (0, .long 10), (1, .long 100), (1, .long 1000), (1, .long 10000), (1, .long 100000), (1, .long 1000000), (1, .long 10000000), (1, .long 100000000), (1, .long 1000000000), (1, .long 10000000000), (1, .long 100000000000), (1, .long 1000000000000), (1, .long 10000000000000), (1, .long 100000000000000), (1, .long 1000000000000000), (1, .long 10000000000000000), (1, .long 100000000000000000), (1, .long 1000000000000000000), (1, .long 18446744073709551606), (1, .long 18446744073709551516), (1, .long 18446744073709550616), (1, .long 18446744073709541616), (1, .long 18446744073709451616), (1, .long 18446744073708551616), (1, .long 18446744073699551616), (1, .long 18446744073609551616), (1, .long 18446744072709551616), (1, .long 18446744063709551616), (1, .long 18446743973709551616), (1, .long 18446743073709551616), (1, .long 18446734073709551616), (1, .long 18446644073709551616), (1, .long 18445744073709551616), (1, .long 18436744073709551616), (1, .long 18346744073709551616), (1, .long 17446744073709551616), (3, u "law"), (0, u "(JIII)Z")] 7

def k1m0 : Method := { name := "<init>", desc := "()V", sig := { parameters := [], returnType := none }, accessFlags := 1, code := none }
def k1c1 : Code := { maxStack := 8, maxLocals := 17, code := code, exceptionTable := #[], attributes := #[] }
def k1m1 : Method := { name := "law", desc := "(JIII)Z", sig := { parameters := [.long, .int, .int, .int], returnType := some .boolean }, accessFlags := 9, code := some k1c1 }
def k1c2 : Code := { maxStack := 2, maxLocals := 1, code := method_3_code, exceptionTable := #[], attributes := #[] }
def k1m2 : Method := { name := "prefixOk", desc := "(Ljava/lang/String;)Z", sig := { parameters := [(.object "java/lang/String")], returnType := some .boolean }, accessFlags := 10, code := some k1c2 }
def k1c3 : Code := { maxStack := 4, maxLocals := 3, code := method_4_code, exceptionTable := #[], attributes := #[] }
def k1m3 : Method := { name := "countDigits", desc := "(J)I", sig := { parameters := [.long], returnType := some .int }, accessFlags := 10, code := some k1c3 }
def k1c4 : Code := { maxStack := 4, maxLocals := 9, code := method_5_code, exceptionTable := #[], attributes := #[] }
def k1m4 : Method := { name := "digitOk", desc := "(Ljava/lang/String;IJJII)Z", sig := { parameters := [(.object "java/lang/String"), .int, .long, .long, .int, .int], returnType := some .boolean }, accessFlags := 10, code := some k1c4 }
/-- com/example/ossify/ossify/RefusalDescribePinLaw -/
def k1 : Class := { plain "com/example/ossify/ossify/RefusalDescribePinLaw" (some 0) with
  accessFlags := 49
  interfaces := #[]
  cf := some (fileOf pool1 27 #[] #[{ accessFlags := 1, nameIndex := 5, descriptorIndex := 6, attributes := #[] }, { accessFlags := 9, nameIndex := 122, descriptorIndex := 123, attributes := #[] }, { accessFlags := 10, nameIndex := 38, descriptorIndex := 39, attributes := #[] }, { accessFlags := 10, nameIndex := 30, descriptorIndex := 31, attributes := #[] }, { accessFlags := 10, nameIndex := 46, descriptorIndex := 47, attributes := #[] }] 49 2 #[] #[])
  fields := #[]
  methods := #[k1m0, k1m1, k1m2, k1m3, k1m4]
  instanceTypes := #[]
  staticTypes := #[]
  resolved := Array.replicate 131 none
  statics := none }

def pool2 : Array CpInfo := pool [(1, .class_ 2), (0, u "java/io/Serializable"), (0, .class_ 4), (0, u "java/lang/Object")] 2

/-- java/io/Serializable -/
def k2 : Class := { plain "java/io/Serializable" (some 0) with
  accessFlags := 1537
  interfaces := #[]
  cf := some (fileOf pool2 1 #[] #[] 1537 3 #[] #[])
  fields := #[]
  methods := #[]
  instanceTypes := #[]
  staticTypes := #[]
  resolved := Array.replicate 7 none
  statics := none }

def pool3 : Array CpInfo := pool [(1, .class_ 2), (0, u "java/lang/Comparable"), (0, .class_ 4), (0, u "java/lang/Object")] 7

/-- java/lang/Comparable -/
def k3 : Class := { plain "java/lang/Comparable" (some 0) with
  accessFlags := 1537
  interfaces := #[]
  cf := some (fileOf pool3 1 #[] #[] 1537 3 #[] #[])
  fields := #[]
  methods := #[]
  instanceTypes := #[]
  staticTypes := #[]
  resolved := Array.replicate 12 none
  statics := none }

def pool4 : Array CpInfo := pool [(2, .class_ 4), (1, u "java/lang/CharSequence"), (42, .class_ 48), (0, u "java/lang/CharSequence$1CodePointIterator"), (10, .class_ 60), (0, u "java/lang/CharSequence$1CharIterator"), (5, .class_ 67), (0, u "java/lang/Object")] 63

/-- java/lang/CharSequence -/
def k4 : Class := { plain "java/lang/CharSequence" (some 0) with
  accessFlags := 1537
  interfaces := #[]
  cf := some (fileOf pool4 2 #[.nestMembers #[47, 59]] #[] 1537 66 #[] #[])
  fields := #[]
  methods := #[]
  instanceTypes := #[]
  staticTypes := #[]
  resolved := Array.replicate 131 none
  statics := none }

def pool5 : Array CpInfo := pool [(1, .class_ 2), (0, u "java/lang/constant/Constable"), (0, .class_ 4), (0, u "java/lang/Object")] 6

/-- java/lang/constant/Constable -/
def k5 : Class := { plain "java/lang/constant/Constable" (some 0) with
  accessFlags := 1537
  interfaces := #[]
  cf := some (fileOf pool5 1 #[] #[] 1537 3 #[] #[])
  fields := #[]
  methods := #[]
  instanceTypes := #[]
  staticTypes := #[]
  resolved := Array.replicate 11 none
  statics := none }

def pool6 : Array CpInfo := pool [(1, .class_ 2), (0, u "java/lang/constant/ConstantDesc"), (0, .class_ 4), (0, u "java/lang/Object")] 32

/-- java/lang/constant/ConstantDesc -/
def k6 : Class := { plain "java/lang/constant/ConstantDesc" (some 0) with
  accessFlags := 1537
  interfaces := #[]
  cf := some (fileOf pool6 1 #[] #[] 1537 3 #[] #[])
  fields := #[]
  methods := #[]
  instanceTypes := #[]
  staticTypes := #[]
  resolved := Array.replicate 37 none
  statics := none }

def pool7 : Array CpInfo := pool [(1, .methodref 2 3), (0, .class_ 4), (0, .nameAndType 5 6), (0, u "java/lang/Object"), (0, u "<init>"), (0, u "()V"), (0, .string 8), (0, u ""), (0, .fieldref 10 11), (0, .class_ 12), (0, .nameAndType 13 14), (0, u "java/lang/String"), (0, u "value"), (0, u "[B"), (0, .fieldref 10 16), (0, .nameAndType 17 18), (0, u "coder"), (0, u "B"), (2, u "hash"), (0, u "I"), (2, u "hashIsZero"), (0, u "Z"), (0, .methodref 10 28), (0, .nameAndType 5 29), (0, u "([CIILjava/lang/Void;)V"), (8, .fieldref 10 39), (0, .nameAndType 40 26), (0, u "COMPACT_STRINGS"), (1, .class_ 44), (1, u "java/lang/StringUTF16"), (0, u "compress"), (1, .methodref 42 48), (0, .nameAndType 49 50), (0, u "coderFromArrayLen"), (0, u "([BI)B"), (2, u "toBytes"), (0, .methodref 55 56), (0, .class_ 57), (0, .nameAndType 58 59), (0, u "java/util/Arrays"), (0, u "copyOfRange"), (0, u "([BII)[B"), (47, .class_ 109), (1, u "java/lang/StringLatin1"), (32, u "()Z"), (34, .methodref 42 178), (0, .nameAndType 45 179), (0, u "([CII)[B"), (13, .class_ 195), (1, u "java/lang/System"), (13, .methodref 10 210), (0, .nameAndType 5 211), (0, u "([BB)V"), (0, .methodref 193 213), (0, .nameAndType 214 215), (0, u "arraycopy"), (0, u "(Ljava/lang/Object;ILjava/lang/Object;II)V"), (118, u "()I"), (0, .methodref 10 336), (0, .nameAndType 17 337), (0, u "()B"), (2, u "()[B"), (22, u "([BI)C"), (5, u "(C)Z"), (21, u "(II)V"), (35, u "(I)C"), (61, .methodref 10 490), (0, .nameAndType 5 491), (0, u "(Ljava/lang/AbstractStringBuilder;Ljava/lang/Void;)V"), (0, .methodref 10 493), (0, .nameAndType 494 142), (0, u "isLatin1"), (0, .methodref 107 496), (0, .nameAndType 497 363), (0, u "charAt"), (3, u "checkIndex"), (4, .nameAndType 507 334), (0, u "length"), (24, u "getBytes"), (16, .methodref 550 506), (0, .class_ 551), (0, u "java/lang/AbstractStringBuilder"), (0, .methodref 550 553), (0, .nameAndType 554 340), (0, u "getValue"), (20, .class_ 576), (0, u "java/lang/CharSequence"), (22, u "CASE_INSENSITIVE_ORDER"), (0, u "Ljava/util/Comparator;"), (181, u "valueOf"), (0, u "(C)Ljava/lang/String;"), (37, u "([BIB)V"), (188, u "([C)V"), (4, .methodref 107 1016), (0, .nameAndType 1017 369), (0, u "canEncode"), (0, .methodref 107 1019), (0, .nameAndType 53 1020), (0, u "(C)[B"), (26, .methodref 550 493), (5, .fieldref 1054 1055), (0, .class_ 1056), (0, .nameAndType 1057 1058), (0, u "jdk/internal/util/Preconditions"), (0, u "SIOOBE_FORMATTER"), (0, u "Ljava/util/function/BiFunction;"), (0, .methodref 1054 1060), (0, .nameAndType 501 1061), (0, u "(IILjava/util/function/BiFunction;)I"), (39, u "serialPersistentFields"), (0, u "[Ljava/io/ObjectStreamField;"), (0, .class_ 1104), (0, u "java/lang/String$CaseInsensitiveComparator"), (1, .class_ 1107), (0, u "java/io/Serializable"), (0, .class_ 1109), (0, u "java/lang/Comparable"), (0, .class_ 1111), (0, u "java/lang/constant/Constable"), (0, .class_ 1113), (0, u "java/lang/constant/ConstantDesc"), (2, u "serialVersionUID"), (0, u "J"), (3, u "REPL"), (0, u "C"), (2, u "LATIN1"), (1, u "UTF16"), (105, u "(Ljava/lang/StringBuilder;)V")] 217

def k7m0 : Method := { name := "<init>", desc := "()V", sig := { parameters := [], returnType := none }, accessFlags := 1, code := none }
def k7c1 : Code := { maxStack := 5, maxLocals := 2, code := jdk_42_method_3_code, exceptionTable := #[], attributes := #[] }
def k7m1 : Method := { name := "<init>", desc := "([C)V", sig := { parameters := [(.array .char)], returnType := none }, accessFlags := 1, code := some k7c1 }
def k7c2 : Code := { maxStack := 3, maxLocals := 2, code := jdk_42_method_53_code, exceptionTable := #[], attributes := #[] }
def k7m2 : Method := { name := "<init>", desc := "(Ljava/lang/StringBuilder;)V", sig := { parameters := [(.object "java/lang/StringBuilder")], returnType := none }, accessFlags := 1, code := some k7c2 }
def k7c3 : Code := { maxStack := 2, maxLocals := 1, code := jdk_42_method_54_code, exceptionTable := #[], attributes := #[] }
def k7m3 : Method := { name := "length", desc := "()I", sig := { parameters := [], returnType := some .int }, accessFlags := 1, code := some k7c3 }
def k7c4 : Code := { maxStack := 2, maxLocals := 2, code := jdk_42_method_56_code, exceptionTable := #[], attributes := #[] }
def k7m4 : Method := { name := "charAt", desc := "(I)C", sig := { parameters := [.int], returnType := some .char }, accessFlags := 1, code := some k7c4 }
def k7c5 : Code := { maxStack := 4, maxLocals := 1, code := jdk_42_method_139_code, exceptionTable := #[], attributes := #[] }
def k7m5 : Method := { name := "valueOf", desc := "(C)Ljava/lang/String;", sig := { parameters := [.char], returnType := some (.object "java/lang/String") }, accessFlags := 9, code := some k7c5 }
def k7c6 : Code := { maxStack := 5, maxLocals := 4, code := jdk_42_method_147_code, exceptionTable := #[], attributes := #[] }
def k7m6 : Method := { name := "getBytes", desc := "([BIB)V", sig := { parameters := [(.array .byte), .int, .byte], returnType := none }, accessFlags := 0, code := some k7c6 }
def k7c7 : Code := { maxStack := 4, maxLocals := 6, code := jdk_42_method_149_code, exceptionTable := #[], attributes := #[] }
def k7m7 : Method := { name := "<init>", desc := "([CIILjava/lang/Void;)V", sig := { parameters := [(.array .char), .int, .int, (.object "java/lang/Void")], returnType := none }, accessFlags := 2, code := some k7c7 }
def k7c8 : Code := { maxStack := 5, maxLocals := 5, code := jdk_42_method_150_code, exceptionTable := #[], attributes := #[] }
def k7m8 : Method := { name := "<init>", desc := "(Ljava/lang/AbstractStringBuilder;Ljava/lang/Void;)V", sig := { parameters := [(.object "java/lang/AbstractStringBuilder"), (.object "java/lang/Void")], returnType := none }, accessFlags := 0, code := some k7c8 }
def k7c9 : Code := { maxStack := 2, maxLocals := 3, code := jdk_42_method_151_code, exceptionTable := #[], attributes := #[] }
def k7m9 : Method := { name := "<init>", desc := "([BB)V", sig := { parameters := [(.array .byte), .byte], returnType := none }, accessFlags := 0, code := some k7c9 }
def k7c10 : Code := { maxStack := 1, maxLocals := 1, code := jdk_42_method_152_code, exceptionTable := #[], attributes := #[] }
def k7m10 : Method := { name := "coder", desc := "()B", sig := { parameters := [], returnType := some .byte }, accessFlags := 0, code := some k7c10 }
def k7c11 : Code := { maxStack := 1, maxLocals := 1, code := jdk_42_method_154_code, exceptionTable := #[], attributes := #[] }
def k7m11 : Method := { name := "isLatin1", desc := "()Z", sig := { parameters := [], returnType := some .boolean }, accessFlags := 0, code := some k7c11 }
def k7c12 : Code := { maxStack := 3, maxLocals := 2, code := jdk_42_method_155_code, exceptionTable := #[], attributes := #[] }
def k7m12 : Method := { name := "checkIndex", desc := "(II)V", sig := { parameters := [.int, .int], returnType := none }, accessFlags := 8, code := some k7c12 }
/-- java/lang/String -/
def k7 : Class := { plain "java/lang/String" (some 0) with
  accessFlags := 49
  interfaces := #[2, 3, 4, 5, 6]
  cf := some (fileOf pool7 10 #[.nestMembers #[1103]] #[{ accessFlags := 1, nameIndex := 5, descriptorIndex := 6, attributes := #[] }, { accessFlags := 1, nameIndex := 5, descriptorIndex := 1010, attributes := #[] }, { accessFlags := 1, nameIndex := 5, descriptorIndex := 1233, attributes := #[] }, { accessFlags := 1, nameIndex := 507, descriptorIndex := 334, attributes := #[] }, { accessFlags := 1, nameIndex := 497, descriptorIndex := 427, attributes := #[] }, { accessFlags := 9, nameIndex := 782, descriptorIndex := 783, attributes := #[] }, { accessFlags := 0, nameIndex := 532, descriptorIndex := 821, attributes := #[] }, { accessFlags := 2, nameIndex := 5, descriptorIndex := 29, attributes := #[] }, { accessFlags := 0, nameIndex := 5, descriptorIndex := 491, attributes := #[] }, { accessFlags := 0, nameIndex := 5, descriptorIndex := 211, attributes := #[] }, { accessFlags := 0, nameIndex := 17, descriptorIndex := 337, attributes := #[] }, { accessFlags := 0, nameIndex := 494, descriptorIndex := 142, attributes := #[] }, { accessFlags := 8, nameIndex := 501, descriptorIndex := 391, attributes := #[] }] 49 2 #[1106, 1108, 575, 1110, 1112] #[{ accessFlags := 18, nameIndex := 13, descriptorIndex := 14, attributes := #[] }, { accessFlags := 18, nameIndex := 17, descriptorIndex := 18, attributes := #[] }, { accessFlags := 2, nameIndex := 21, descriptorIndex := 22, attributes := #[] }, { accessFlags := 2, nameIndex := 25, descriptorIndex := 26, attributes := #[] }, { accessFlags := 26, nameIndex := 1116, descriptorIndex := 1117, attributes := #[] }, { accessFlags := 24, nameIndex := 40, descriptorIndex := 26, attributes := #[] }, { accessFlags := 26, nameIndex := 1101, descriptorIndex := 1102, attributes := #[] }, { accessFlags := 26, nameIndex := 1121, descriptorIndex := 1122, attributes := #[] }, { accessFlags := 25, nameIndex := 599, descriptorIndex := 600, attributes := #[] }, { accessFlags := 24, nameIndex := 1125, descriptorIndex := 18, attributes := #[] }, { accessFlags := 24, nameIndex := 1127, descriptorIndex := 18, attributes := #[] }])
  fields := #[{ name := "value", type := (.array .byte), accessFlags := 18, slot := 0, constantValue := 0 }, { name := "coder", type := .byte, accessFlags := 18, slot := 1, constantValue := 0 }, { name := "hash", type := .int, accessFlags := 2, slot := 2, constantValue := 0 }, { name := "hashIsZero", type := .boolean, accessFlags := 2, slot := 3, constantValue := 0 }, { name := "serialVersionUID", type := .long, accessFlags := 26, slot := 0, constantValue := 0 }, { name := "COMPACT_STRINGS", type := .boolean, accessFlags := 24, slot := 1, constantValue := 0 }, { name := "serialPersistentFields", type := (.array (.object "java/io/ObjectStreamField")), accessFlags := 26, slot := 2, constantValue := 0 }, { name := "REPL", type := .char, accessFlags := 26, slot := 3, constantValue := 0 }, { name := "CASE_INSENSITIVE_ORDER", type := (.object "java/util/Comparator"), accessFlags := 25, slot := 4, constantValue := 0 }, { name := "LATIN1", type := .byte, accessFlags := 24, slot := 5, constantValue := 0 }, { name := "UTF16", type := .byte, accessFlags := 24, slot := 6, constantValue := 0 }]
  methods := #[k7m0, k7m1, k7m2, k7m3, k7m4, k7m5, k7m6, k7m7, k7m8, k7m9, k7m10, k7m11, k7m12]
  instanceTypes := #[(.array .byte), .byte, .int, .boolean]
  staticTypes := #[.long, .boolean, (.array (.object "java/io/ObjectStreamField")), .char, (.object "java/util/Comparator"), .byte, .byte]
  resolved := Array.replicate 1451 none
  statics := some 0 }

def pool8 : Array CpInfo := pool [(1, .methodref 2 3), (0, .class_ 4), (0, .nameAndType 5 6), (0, u "java/lang/Object"), (0, u "<init>"), (0, u "()V"), (0, .class_ 8), (0, u "java/lang/Record")] 13

def k8c0 : Code := { maxStack := 1, maxLocals := 1, code := jdk_30_method_1_code, exceptionTable := #[], attributes := #[] }
def k8m0 : Method := { name := "<init>", desc := "()V", sig := { parameters := [], returnType := none }, accessFlags := 4, code := some k8c0 }
/-- java/lang/Record -/
def k8 : Class := { plain "java/lang/Record" (some 0) with
  accessFlags := 1057
  interfaces := #[]
  cf := some (fileOf pool8 7 #[] #[{ accessFlags := 4, nameIndex := 5, descriptorIndex := 6, attributes := #[] }] 1057 2 #[] #[])
  fields := #[]
  methods := #[k8m0]
  instanceTypes := #[]
  staticTypes := #[]
  resolved := Array.replicate 22 none
  statics := none }

def pool9 : Array CpInfo := pool [(1, .methodref 2 3), (0, .class_ 4), (0, .nameAndType 5 6), (0, u "java/lang/Record"), (0, u "<init>"), (0, u "()V"), (0, .fieldref 8 9), (0, .class_ 10), (0, .nameAndType 11 12), (0, u "com/example/ossify/ossify/AppendReport$Refusal"), (0, u "line"), (0, u "J"), (0, .fieldref 8 14), (0, .nameAndType 15 16), (0, u "reason"), (0, u "Ljava/lang/String;"), (0, .class_ 18), (0, u "java/lang/StringBuilder"), (0, .methodref 17 3), (0, .string 21), (0, u "refused line "), (0, .methodref 17 23), (0, .nameAndType 24 25), (0, u "append"), (0, u "(Ljava/lang/String;)Ljava/lang/StringBuilder;"), (0, .methodref 17 27), (0, .nameAndType 24 28), (0, u "(J)Ljava/lang/StringBuilder;"), (0, .string 30), (0, u ": "), (0, .methodref 17 32), (0, .nameAndType 33 34), (0, u "toString"), (0, u "()Ljava/lang/String;"), (11, u "(JLjava/lang/String;)V"), (3, u "describe"), (6, .class_ 58), (0, u "com/example/ossify/ossify/AppendReport")] 20

def k9c0 : Code := { maxStack := 3, maxLocals := 4, code := prog_2_method_1_code, exceptionTable := #[], attributes := #[] }
def k9m0 : Method := { name := "<init>", desc := "(JLjava/lang/String;)V", sig := { parameters := [.long, (.object "java/lang/String")], returnType := none }, accessFlags := 1, code := some k9c0 }
def k9c1 : Code := { maxStack := 3, maxLocals := 1, code := prog_2_method_2_code, exceptionTable := #[], attributes := #[] }
def k9m1 : Method := { name := "describe", desc := "()Ljava/lang/String;", sig := { parameters := [], returnType := some (.object "java/lang/String") }, accessFlags := 1, code := some k9c1 }
/-- com/example/ossify/ossify/AppendReport$Refusal -/
def k9 : Class := { plain "com/example/ossify/ossify/AppendReport$Refusal" (some 8) with
  accessFlags := 49
  interfaces := #[]
  cf := some (fileOf pool9 8 #[.nestHost 57] #[{ accessFlags := 1, nameIndex := 5, descriptorIndex := 46, attributes := #[] }, { accessFlags := 1, nameIndex := 50, descriptorIndex := 34, attributes := #[] }] 49 2 #[] #[{ accessFlags := 18, nameIndex := 11, descriptorIndex := 12, attributes := #[] }, { accessFlags := 18, nameIndex := 15, descriptorIndex := 16, attributes := #[] }])
  fields := #[{ name := "line", type := .long, accessFlags := 18, slot := 0, constantValue := 0 }, { name := "reason", type := (.object "java/lang/String"), accessFlags := 18, slot := 1, constantValue := 0 }]
  methods := #[k9m0, k9m1]
  instanceTypes := #[.long, (.object "java/lang/String")]
  staticTypes := #[]
  resolved := Array.replicate 79 none
  statics := none }

def pool10 : Array CpInfo := pool [(1, .class_ 2), (0, u "java/lang/Appendable"), (0, .class_ 4), (0, u "java/lang/Object")] 9

/-- java/lang/Appendable -/
def k10 : Class := { plain "java/lang/Appendable" (some 0) with
  accessFlags := 1537
  interfaces := #[]
  cf := some (fileOf pool10 1 #[] #[] 1537 3 #[] #[])
  fields := #[]
  methods := #[]
  instanceTypes := #[]
  staticTypes := #[]
  resolved := Array.replicate 14 none
  statics := none }

def pool11 : Array CpInfo := pool [(1, .class_ 2), (0, u "java/lang/String"), (0, .methodref 4 5), (0, .class_ 6), (0, .nameAndType 7 8), (0, u "java/lang/Object"), (0, u "<init>"), (0, u "()V"), (1, .class_ 12), (1, u "java/lang/AbstractStringBuilder"), (0, u "EMPTYVALUE"), (0, u "[B"), (0, .fieldref 10 16), (0, .nameAndType 17 14), (0, u "value"), (0, .fieldref 1 19), (0, .nameAndType 20 21), (0, u "COMPACT_STRINGS"), (0, u "Z"), (0, .fieldref 10 23), (0, .nameAndType 24 25), (0, u "coder"), (0, u "B"), (6, .methodref 1 33), (0, .nameAndType 34 35), (0, u "length"), (0, u "()I"), (3, .integer 2147483647), (0, .methodref 1 41), (0, .nameAndType 24 42), (0, u "()B"), (2, u "append"), (0, u "(Ljava/lang/String;)Ljava/lang/AbstractStringBuilder;"), (1, .class_ 49), (0, u "java/lang/CharSequence"), (19, u "(Ljava/lang/String;)V"), (5, u "maybeLatin1"), (3, .fieldref 10 80), (0, .nameAndType 81 82), (0, u "count"), (0, u "I"), (0, .methodref 10 84), (0, .nameAndType 85 86), (0, u "isLatin1"), (0, u "()Z"), (13, .methodref 10 101), (0, .nameAndType 102 103), (0, u "ensureCapacityInternal"), (0, u "(I)V"), (0, .methodref 10 105), (0, .nameAndType 106 107), (0, u "newCapacity"), (0, u "(I)I"), (0, .methodref 109 110), (0, .class_ 111), (0, .nameAndType 112 113), (0, u "java/util/Arrays"), (0, u "copyOf"), (0, u "([BI)[B"), (0, .methodref 115 116), (0, .class_ 117), (0, .nameAndType 118 119), (0, u "jdk/internal/util/ArraysSupport"), (0, u "newLength"), (0, u "(III)I"), (68, u "getChars"), (19, .methodref 10 209), (0, .nameAndType 210 211), (0, u "putStringAt"), (0, u "(ILjava/lang/String;)V"), (5, u "inflateIfNeededFor"), (2, .nameAndType 221 222), (0, u "getBytes"), (0, u "([BIB)V"), (24, u "stringSize"), (6, .methodref 255 256), (0, .class_ 257), (0, .nameAndType 247 258), (0, u "java/lang/Long"), (0, u "(J)I"), (0, .methodref 255 260), (0, .nameAndType 188 261), (0, u "(JI[B)I"), (135, .methodref 10 398), (0, .nameAndType 217 69), (0, .methodref 1 220), (3, u "()[B"), (40, .class_ 445), (0, u "java/lang/Appendable"), (67, u "(J)Ljava/lang/AbstractStringBuilder;"), (38, u "getValue")] 56

def k11m0 : Method := { name := "<init>", desc := "()V", sig := { parameters := [], returnType := none }, accessFlags := 0, code := none }
def k11c1 : Code := { maxStack := 2, maxLocals := 2, code := jdk_68_method_2_code, exceptionTable := #[], attributes := #[] }
def k11m1 : Method := { name := "<init>", desc := "(I)V", sig := { parameters := [.int], returnType := none }, accessFlags := 0, code := some k11c1 }
def k11c2 : Code := { maxStack := 1, maxLocals := 1, code := jdk_68_method_6_code, exceptionTable := #[], attributes := #[] }
def k11m2 : Method := { name := "length", desc := "()I", sig := { parameters := [], returnType := some .int }, accessFlags := 1, code := some k11c2 }
def k11c3 : Code := { maxStack := 4, maxLocals := 3, code := jdk_68_method_9_code, exceptionTable := #[], attributes := #[] }
def k11m3 : Method := { name := "ensureCapacityInternal", desc := "(I)V", sig := { parameters := [.int], returnType := none }, accessFlags := 2, code := some k11c3 }
def k11c4 : Code := { maxStack := 5, maxLocals := 6, code := jdk_68_method_10_code, exceptionTable := #[], attributes := #[] }
def k11m4 : Method := { name := "newCapacity", desc := "(I)I", sig := { parameters := [.int], returnType := some .int }, accessFlags := 2, code := some k11c4 }
def k11c5 : Code := { maxStack := 3, maxLocals := 3, code := jdk_68_method_22_code, exceptionTable := #[], attributes := #[] }
def k11m5 : Method := { name := "append", desc := "(Ljava/lang/String;)Ljava/lang/AbstractStringBuilder;", sig := { parameters := [(.object "java/lang/String")], returnType := some (.object "java/lang/AbstractStringBuilder") }, accessFlags := 1, code := some k11c5 }
def k11c6 : Code := { maxStack := 5, maxLocals := 5, code := jdk_68_method_33_code, exceptionTable := #[], attributes := #[] }
def k11m6 : Method := { name := "append", desc := "(J)Ljava/lang/AbstractStringBuilder;", sig := { parameters := [.long], returnType := some (.object "java/lang/AbstractStringBuilder") }, accessFlags := 1, code := some k11c6 }
def k11c7 : Code := { maxStack := 1, maxLocals := 1, code := jdk_68_method_64_code, exceptionTable := #[], attributes := #[] }
def k11m7 : Method := { name := "getValue", desc := "()[B", sig := { parameters := [], returnType := some (.array .byte) }, accessFlags := 16, code := some k11c7 }
def k11c8 : Code := { maxStack := 1, maxLocals := 1, code := jdk_68_method_68_code, exceptionTable := #[], attributes := #[] }
def k11m8 : Method := { name := "isLatin1", desc := "()Z", sig := { parameters := [], returnType := some .boolean }, accessFlags := 16, code := some k11c8 }
def k11c9 : Code := { maxStack := 2, maxLocals := 2, code := jdk_68_method_71_code, exceptionTable := #[], attributes := #[] }
def k11m9 : Method := { name := "inflateIfNeededFor", desc := "(Ljava/lang/String;)V", sig := { parameters := [(.object "java/lang/String")], returnType := none }, accessFlags := 2, code := some k11c9 }
def k11c10 : Code := { maxStack := 4, maxLocals := 3, code := jdk_68_method_73_code, exceptionTable := #[], attributes := #[] }
def k11m10 : Method := { name := "putStringAt", desc := "(ILjava/lang/String;)V", sig := { parameters := [.int, (.object "java/lang/String")], returnType := none }, accessFlags := 2, code := some k11c10 }
/-- java/lang/AbstractStringBuilder -/
def k11 : Class := { plain "java/lang/AbstractStringBuilder" (some 0) with
  accessFlags := 1056
  interfaces := #[10, 4]
  cf := some (fileOf pool11 10 #[] #[{ accessFlags := 0, nameIndex := 7, descriptorIndex := 8, attributes := #[] }, { accessFlags := 0, nameIndex := 7, descriptorIndex := 103, attributes := #[] }, { accessFlags := 1, nameIndex := 34, descriptorIndex := 35, attributes := #[] }, { accessFlags := 2, nameIndex := 102, descriptorIndex := 103, attributes := #[] }, { accessFlags := 2, nameIndex := 106, descriptorIndex := 107, attributes := #[] }, { accessFlags := 1, nameIndex := 45, descriptorIndex := 46, attributes := #[] }, { accessFlags := 1, nameIndex := 45, descriptorIndex := 513, attributes := #[] }, { accessFlags := 16, nameIndex := 552, descriptorIndex := 403, attributes := #[] }, { accessFlags := 16, nameIndex := 85, descriptorIndex := 86, attributes := #[] }, { accessFlags := 2, nameIndex := 217, descriptorIndex := 69, attributes := #[] }, { accessFlags := 2, nameIndex := 210, descriptorIndex := 211, attributes := #[] }] 1056 4 #[444, 48] #[{ accessFlags := 0, nameIndex := 17, descriptorIndex := 14, attributes := #[] }, { accessFlags := 0, nameIndex := 24, descriptorIndex := 25, attributes := #[] }, { accessFlags := 0, nameIndex := 75, descriptorIndex := 21, attributes := #[] }, { accessFlags := 0, nameIndex := 81, descriptorIndex := 82, attributes := #[] }, { accessFlags := 26, nameIndex := 13, descriptorIndex := 14, attributes := #[] }])
  fields := #[{ name := "value", type := (.array .byte), accessFlags := 0, slot := 0, constantValue := 0 }, { name := "coder", type := .byte, accessFlags := 0, slot := 1, constantValue := 0 }, { name := "maybeLatin1", type := .boolean, accessFlags := 0, slot := 2, constantValue := 0 }, { name := "count", type := .int, accessFlags := 0, slot := 3, constantValue := 0 }, { name := "EMPTYVALUE", type := (.array .byte), accessFlags := 26, slot := 0, constantValue := 0 }]
  methods := #[k11m0, k11m1, k11m2, k11m3, k11m4, k11m5, k11m6, k11m7, k11m8, k11m9, k11m10]
  instanceTypes := #[(.array .byte), .byte, .boolean, .int]
  staticTypes := #[(.array .byte)]
  resolved := Array.replicate 609 none
  statics := none }

def pool12 : Array CpInfo := pool [(1, .methodref 2 3), (0, .class_ 4), (0, .nameAndType 5 6), (0, u "java/lang/AbstractStringBuilder"), (0, u "<init>"), (0, u "(I)V"), (11, .class_ 20), (1, u "java/lang/String"), (3, .class_ 26), (1, u "java/lang/StringBuilder"), (0, u "append"), (0, u "(Ljava/lang/String;)Ljava/lang/StringBuilder;"), (0, .methodref 2 30), (0, .nameAndType 27 31), (0, u "(Ljava/lang/String;)Ljava/lang/AbstractStringBuilder;"), (24, .methodref 2 57), (0, .nameAndType 27 58), (0, u "(J)Ljava/lang/AbstractStringBuilder;"), (78, .methodref 18 138), (0, .nameAndType 5 139), (0, u "(Ljava/lang/StringBuilder;)V"), (5, u "()V"), (10, u "()I"), (124, u "(J)Ljava/lang/StringBuilder;"), (61, .methodref 2 344), (0, .nameAndType 345 156), (0, u "length"), (3, .class_ 350), (0, u "java/lang/Appendable"), (0, .class_ 352), (0, u "java/io/Serializable"), (0, .class_ 354), (0, u "java/lang/Comparable"), (0, .class_ 356), (0, u "java/lang/CharSequence"), (0, u "serialVersionUID"), (0, u "J"), (40, u "toString"), (0, u "()Ljava/lang/String;")] 21

def k12c0 : Code := { maxStack := 2, maxLocals := 1, code := jdk_67_method_1_code, exceptionTable := #[], attributes := #[] }
def k12m0 : Method := { name := "<init>", desc := "()V", sig := { parameters := [], returnType := none }, accessFlags := 1, code := some k12c0 }
def k12c1 : Code := { maxStack := 2, maxLocals := 2, code := jdk_67_method_7_code, exceptionTable := #[], attributes := #[] }
def k12m1 : Method := { name := "append", desc := "(Ljava/lang/String;)Ljava/lang/StringBuilder;", sig := { parameters := [(.object "java/lang/String")], returnType := some (.object "java/lang/StringBuilder") }, accessFlags := 1, code := some k12c1 }
def k12c2 : Code := { maxStack := 3, maxLocals := 3, code := jdk_67_method_16_code, exceptionTable := #[], attributes := #[] }
def k12m2 : Method := { name := "append", desc := "(J)Ljava/lang/StringBuilder;", sig := { parameters := [.long], returnType := some (.object "java/lang/StringBuilder") }, accessFlags := 1, code := some k12c2 }
def k12c3 : Code := { maxStack := 3, maxLocals := 1, code := jdk_67_method_42_code, exceptionTable := #[], attributes := #[] }
def k12m3 : Method := { name := "toString", desc := "()Ljava/lang/String;", sig := { parameters := [], returnType := some (.object "java/lang/String") }, accessFlags := 1, code := some k12c3 }
def k12c4 : Code := { maxStack := 1, maxLocals := 1, code := jdk_67_method_93_code, exceptionTable := #[], attributes := #[] }
def k12m4 : Method := { name := "length", desc := "()I", sig := { parameters := [], returnType := some .int }, accessFlags := 4161, code := some k12c4 }
/-- java/lang/StringBuilder -/
def k12 : Class := { plain "java/lang/StringBuilder" (some 11) with
  accessFlags := 49
  interfaces := #[10, 2, 3, 4]
  cf := some (fileOf pool12 24 #[] #[{ accessFlags := 1, nameIndex := 5, descriptorIndex := 145, attributes := #[] }, { accessFlags := 1, nameIndex := 27, descriptorIndex := 28, attributes := #[] }, { accessFlags := 1, nameIndex := 27, descriptorIndex := 281, attributes := #[] }, { accessFlags := 1, nameIndex := 399, descriptorIndex := 400, attributes := #[] }, { accessFlags := 4161, nameIndex := 345, descriptorIndex := 156, attributes := #[] }] 49 2 #[349, 351, 353, 355] #[{ accessFlags := 24, nameIndex := 357, descriptorIndex := 358, attributes := #[] }])
  fields := #[{ name := "serialVersionUID", type := .long, accessFlags := 24, slot := 0, constantValue := 0 }]
  methods := #[k12m0, k12m1, k12m2, k12m3, k12m4]
  instanceTypes := #[(.array .byte), .byte, .boolean, .int]
  staticTypes := #[.long]
  resolved := Array.replicate 422 none
  statics := none }

def pool13 : Array CpInfo := pool [(2, .class_ 4), (1, u "java/lang/Object"), (0, u "<init>"), (0, u "()V"), (1, .class_ 10), (1, u "java/lang/System"), (0, u "allowSecurityManager"), (0, u "I"), (16, u "cons"), (0, u "Ljava/io/Console;"), (77, .class_ 110), (1, u "java/lang/System$CallersHolder"), (43, u "initialErrStream"), (0, u "Ljava/io/PrintStream;"), (19, u "security"), (0, u "Ljava/lang/SecurityManager;"), (31, .class_ 209), (0, u "java/lang/System$1"), (7, u "props"), (0, u "Ljava/util/Properties;"), (2, u "lineSeparator"), (0, u "Ljava/lang/String;"), (96, .class_ 321), (1, u "java/lang/System$LoggerFinder"), (5, .class_ 328), (0, u "java/lang/System$Logger"), (67, u "err"), (2, u "out"), (91, u "notSupportedJnuEncoding"), (15, u "in"), (17, u "initialIn"), (0, u "Ljava/io/InputStream;"), (35, u "bootLayer"), (0, u "Ljava/lang/ModuleLayer;"), (99, .class_ 664), (0, u "java/lang/System$2"), (9, u "NEVER"), (2, u "MAYBE"), (49, u "arraycopy"), (0, u "(Ljava/lang/Object;ILjava/lang/Object;II)V"), (72, .class_ 802), (0, u "java/lang/System$Logger$Level")] 31

def k13m0 : Method := { name := "<init>", desc := "()V", sig := { parameters := [], returnType := none }, accessFlags := 2, code := none }
def k13m1 : Method := { name := "arraycopy", desc := "(Ljava/lang/Object;ILjava/lang/Object;II)V", sig := { parameters := [(.object "java/lang/Object"), .int, (.object "java/lang/Object"), .int, .int], returnType := none }, accessFlags := 265, code := none }
/-- java/lang/System -/
def k13 : Class := { plain "java/lang/System" (some 0) with
  accessFlags := 49
  interfaces := #[]
  cf := some (fileOf pool13 8 #[.nestMembers #[319, 327, 801, 108, 663, 208]] #[{ accessFlags := 2, nameIndex := 5, descriptorIndex := 6, attributes := #[] }, { accessFlags := 265, nameIndex := 727, descriptorIndex := 728, attributes := #[] }] 49 2 #[] #[{ accessFlags := 25, nameIndex := 507, descriptorIndex := 526, attributes := #[] }, { accessFlags := 25, nameIndex := 399, descriptorIndex := 155, attributes := #[] }, { accessFlags := 25, nameIndex := 396, descriptorIndex := 155, attributes := #[] }, { accessFlags := 10, nameIndex := 525, descriptorIndex := 526, attributes := #[] }, { accessFlags := 26, nameIndex := 674, descriptorIndex := 12, attributes := #[] }, { accessFlags := 26, nameIndex := 677, descriptorIndex := 12, attributes := #[] }, { accessFlags := 10, nameIndex := 11, descriptorIndex := 12, attributes := #[] }, { accessFlags := 74, nameIndex := 175, descriptorIndex := 176, attributes := #[] }, { accessFlags := 10, nameIndex := 491, descriptorIndex := 222, attributes := #[] }, { accessFlags := 74, nameIndex := 29, descriptorIndex := 30, attributes := #[] }, { accessFlags := 74, nameIndex := 154, descriptorIndex := 155, attributes := #[] }, { accessFlags := 10, nameIndex := 217, descriptorIndex := 218, attributes := #[] }, { accessFlags := 10, nameIndex := 221, descriptorIndex := 222, attributes := #[] }, { accessFlags := 8, nameIndex := 562, descriptorIndex := 563, attributes := #[] }])
  fields := #[{ name := "in", type := (.object "java/io/InputStream"), accessFlags := 25, slot := 0, constantValue := 0 }, { name := "out", type := (.object "java/io/PrintStream"), accessFlags := 25, slot := 1, constantValue := 0 }, { name := "err", type := (.object "java/io/PrintStream"), accessFlags := 25, slot := 2, constantValue := 0 }, { name := "initialIn", type := (.object "java/io/InputStream"), accessFlags := 10, slot := 3, constantValue := 0 }, { name := "NEVER", type := .int, accessFlags := 26, slot := 4, constantValue := 0 }, { name := "MAYBE", type := .int, accessFlags := 26, slot := 5, constantValue := 0 }, { name := "allowSecurityManager", type := .int, accessFlags := 10, slot := 6, constantValue := 0 }, { name := "security", type := (.object "java/lang/SecurityManager"), accessFlags := 74, slot := 7, constantValue := 0 }, { name := "notSupportedJnuEncoding", type := (.object "java/lang/String"), accessFlags := 10, slot := 8, constantValue := 0 }, { name := "cons", type := (.object "java/io/Console"), accessFlags := 74, slot := 9, constantValue := 0 }, { name := "initialErrStream", type := (.object "java/io/PrintStream"), accessFlags := 74, slot := 10, constantValue := 0 }, { name := "props", type := (.object "java/util/Properties"), accessFlags := 10, slot := 11, constantValue := 0 }, { name := "lineSeparator", type := (.object "java/lang/String"), accessFlags := 10, slot := 12, constantValue := 0 }, { name := "bootLayer", type := (.object "java/lang/ModuleLayer"), accessFlags := 8, slot := 13, constantValue := 0 }]
  methods := #[k13m0, k13m1]
  instanceTypes := #[]
  staticTypes := #[(.object "java/io/InputStream"), (.object "java/io/PrintStream"), (.object "java/io/PrintStream"), (.object "java/io/InputStream"), .int, .int, .int, (.object "java/lang/SecurityManager"), (.object "java/lang/String"), (.object "java/io/Console"), (.object "java/io/PrintStream"), (.object "java/util/Properties"), (.object "java/lang/String"), (.object "java/lang/ModuleLayer")]
  resolved := Array.replicate 834 none
  statics := none }

def pool14 : Array CpInfo := pool [(2, .class_ 4), (1, u "java/lang/Object"), (0, u "<init>"), (0, u "()V"), (1, .class_ 10), (1, u "java/lang/Number"), (2, .class_ 14), (0, u "java/io/Serializable"), (0, u "serialVersionUID"), (0, u "J")] 20

def k14m0 : Method := { name := "<init>", desc := "()V", sig := { parameters := [], returnType := none }, accessFlags := 1, code := none }
/-- java/lang/Number -/
def k14 : Class := { plain "java/lang/Number" (some 0) with
  accessFlags := 1057
  interfaces := #[2]
  cf := some (fileOf pool14 8 #[] #[{ accessFlags := 1, nameIndex := 5, descriptorIndex := 6, attributes := #[] }] 1057 2 #[13] #[{ accessFlags := 26, nameIndex := 15, descriptorIndex := 16, attributes := #[] }])
  fields := #[{ name := "serialVersionUID", type := .long, accessFlags := 26, slot := 0, constantValue := 0 }]
  methods := #[k14m0]
  instanceTypes := #[]
  staticTypes := #[.long]
  resolved := Array.replicate 37 none
  statics := none }

def pool15 : Array CpInfo := pool [(1, .class_ 2), (0, u "java/lang/Long"), (15, .class_ 20), (1, u "java/lang/Integer"), (32, .long 10), (47, u "(J)I"), (18, u "stringSize"), (2, u "getChars"), (0, u "(JI[B)I"), (4, .long 18446744071562067968), (1, .long 100), (1, .fieldref 18 134), (0, .nameAndType 135 136), (0, u "DigitOnes"), (0, u "[B"), (0, .fieldref 18 138), (0, .nameAndType 139 136), (0, u "DigitTens"), (0, .long 18446744073709551606), (94, .class_ 237), (1, u "java/lang/Long$LongCache"), (33, .class_ 272), (0, u "java/lang/Number"), (2, u "value"), (0, u "J"), (84, u "TYPE"), (0, u "Ljava/lang/Class;"), (0, .class_ 364), (0, u "java/lang/Comparable"), (0, .class_ 366), (0, u "java/lang/constant/Constable"), (0, .class_ 368), (0, u "java/lang/constant/ConstantDesc"), (0, u "MIN_VALUE"), (1, u "MAX_VALUE"), (4, u "SIZE"), (0, u "I"), (1, u "BYTES"), (1, u "serialVersionUID")] 142

def k15c0 : Code := { maxStack := 4, maxLocals := 11, code := jdk_35_method_14_code, exceptionTable := #[], attributes := #[] }
def k15m0 : Method := { name := "getChars", desc := "(JI[B)I", sig := { parameters := [.long, .int, (.array .byte)], returnType := some .int }, accessFlags := 8, code := some k15c0 }
def k15c1 : Code := { maxStack := 4, maxLocals := 6, code := jdk_35_method_15_code, exceptionTable := #[], attributes := #[] }
def k15m1 : Method := { name := "stringSize", desc := "(J)I", sig := { parameters := [.long], returnType := some .int }, accessFlags := 8, code := some k15c1 }
/-- java/lang/Long -/
def k15 : Class := { plain "java/lang/Long" (some 14) with
  accessFlags := 49
  interfaces := #[3, 5, 6]
  cf := some (fileOf pool15 1 #[.nestMembers #[235]] #[{ accessFlags := 8, nameIndex := 123, descriptorIndex := 124, attributes := #[] }, { accessFlags := 8, nameIndex := 120, descriptorIndex := 101, attributes := #[] }] 49 271 #[363, 365, 367] #[{ accessFlags := 25, nameIndex := 369, descriptorIndex := 276, attributes := #[] }, { accessFlags := 25, nameIndex := 371, descriptorIndex := 276, attributes := #[] }, { accessFlags := 25, nameIndex := 361, descriptorIndex := 362, attributes := #[] }, { accessFlags := 18, nameIndex := 275, descriptorIndex := 276, attributes := #[] }, { accessFlags := 25, nameIndex := 376, descriptorIndex := 377, attributes := #[] }, { accessFlags := 25, nameIndex := 379, descriptorIndex := 377, attributes := #[] }, { accessFlags := 26, nameIndex := 381, descriptorIndex := 276, attributes := #[] }])
  fields := #[{ name := "MIN_VALUE", type := .long, accessFlags := 25, slot := 0, constantValue := 0 }, { name := "MAX_VALUE", type := .long, accessFlags := 25, slot := 1, constantValue := 0 }, { name := "TYPE", type := (.object "java/lang/Class"), accessFlags := 25, slot := 2, constantValue := 0 }, { name := "value", type := .long, accessFlags := 18, slot := 0, constantValue := 0 }, { name := "SIZE", type := .int, accessFlags := 25, slot := 3, constantValue := 0 }, { name := "BYTES", type := .int, accessFlags := 25, slot := 4, constantValue := 0 }, { name := "serialVersionUID", type := .long, accessFlags := 26, slot := 5, constantValue := 0 }]
  methods := #[k15m0, k15m1]
  instanceTypes := #[.long]
  staticTypes := #[.long, .long, (.object "java/lang/Class"), .int, .int, .long]
  resolved := Array.replicate 524 none
  statics := none }

def pool16 : Array CpInfo := pool [(1, .class_ 2), (0, u "java/lang/Integer"), (16, u "digits"), (0, u "[C"), (64, u "DigitOnes"), (0, u "[B"), (2, u "DigitTens"), (99, .class_ 190), (0, u "java/lang/Integer$IntegerCache"), (3, u "I"), (8, .class_ 204), (0, u "java/lang/Number"), (2, u "value"), (94, u "TYPE"), (0, u "Ljava/lang/Class;"), (0, .class_ 305), (0, u "java/lang/Comparable"), (0, .class_ 307), (0, u "java/lang/constant/Constable"), (0, .class_ 309), (0, u "java/lang/constant/ConstantDesc"), (0, u "MIN_VALUE"), (1, u "MAX_VALUE"), (3, u "SIZE"), (1, u "BYTES"), (1, u "serialVersionUID"), (0, u "J")] 131

/-- java/lang/Integer -/
def k16 : Class := { plain "java/lang/Integer" (some 14) with
  accessFlags := 49
  interfaces := #[3, 5, 6]
  cf := some (fileOf pool16 1 #[.nestMembers #[189]] #[] 49 203 #[304, 306, 308] #[{ accessFlags := 25, nameIndex := 310, descriptorIndex := 194, attributes := #[] }, { accessFlags := 25, nameIndex := 312, descriptorIndex := 194, attributes := #[] }, { accessFlags := 25, nameIndex := 302, descriptorIndex := 303, attributes := #[] }, { accessFlags := 24, nameIndex := 19, descriptorIndex := 20, attributes := #[] }, { accessFlags := 24, nameIndex := 89, descriptorIndex := 86, attributes := #[] }, { accessFlags := 24, nameIndex := 85, descriptorIndex := 86, attributes := #[] }, { accessFlags := 18, nameIndex := 207, descriptorIndex := 194, attributes := #[] }, { accessFlags := 25, nameIndex := 316, descriptorIndex := 194, attributes := #[] }, { accessFlags := 25, nameIndex := 318, descriptorIndex := 194, attributes := #[] }, { accessFlags := 26, nameIndex := 320, descriptorIndex := 321, attributes := #[] }])
  fields := #[{ name := "MIN_VALUE", type := .int, accessFlags := 25, slot := 0, constantValue := 0 }, { name := "MAX_VALUE", type := .int, accessFlags := 25, slot := 1, constantValue := 0 }, { name := "TYPE", type := (.object "java/lang/Class"), accessFlags := 25, slot := 2, constantValue := 0 }, { name := "digits", type := (.array .char), accessFlags := 24, slot := 3, constantValue := 0 }, { name := "DigitTens", type := (.array .byte), accessFlags := 24, slot := 4, constantValue := 0 }, { name := "DigitOnes", type := (.array .byte), accessFlags := 24, slot := 5, constantValue := 0 }, { name := "value", type := .int, accessFlags := 18, slot := 0, constantValue := 0 }, { name := "SIZE", type := .int, accessFlags := 25, slot := 6, constantValue := 0 }, { name := "BYTES", type := .int, accessFlags := 25, slot := 7, constantValue := 0 }, { name := "serialVersionUID", type := .long, accessFlags := 26, slot := 8, constantValue := 0 }]
  methods := #[]
  instanceTypes := #[.int]
  staticTypes := #[.int, .int, (.object "java/lang/Class"), (.array .char), (.array .byte), (.array .byte), .int, .int, .long]
  resolved := Array.replicate 453 none
  statics := some 1 }

def pool17 : Array CpInfo := pool [(2, .class_ 4), (1, u "java/lang/Object"), (0, u "<init>"), (0, u "()V"), (7, .class_ 16), (1, u "java/util/Arrays"), (57, .class_ 76), (1, u "java/util/Arrays$NaturalOrder"), (32, u "()Ljava/lang/Object;"), (3, .class_ 115), (1, u "java/util/Arrays$LegacyMergeSort"), (1, u "Z"), (10, .nameAndType 129 109), (0, u "clone"), (9, u "copyOfRange"), (10, .methodref 151 152), (0, .class_ 153), (0, .nameAndType 154 155), (0, u "java/lang/System"), (0, u "arraycopy"), (0, u "(Ljava/lang/Object;ILjava/lang/Object;II)V"), (146, u "copyOf"), (1, .methodref 305 306), (0, .class_ 307), (0, .nameAndType 308 309), (0, u "java/lang/Math"), (0, u "min"), (0, u "(II)I"), (0, .methodref 311 128), (0, .class_ 312), (0, u "[B"), (26, .methodref 14 340), (0, .nameAndType 341 342), (0, u "copyOfRangeByte"), (0, u "([BII)[B"), (0, .methodref 14 344), (0, .nameAndType 345 346), (0, u "checkLength"), (0, u "(II)V"), (28, .class_ 376), (0, u "java/util/Arrays$ArrayList"), (68, u "$assertionsDisabled"), (269, u "MIN_ARRAY_SORT_GRAN"), (0, u "I"), (2, u "INSERTIONSORT_THRESHOLD"), (149, u "([BI)[B"), (105, .class_ 976), (0, u "java/util/Arrays$ArrayItr")] 52

def k17m0 : Method := { name := "<init>", desc := "()V", sig := { parameters := [], returnType := none }, accessFlags := 2, code := none }
def k17c1 : Code := { maxStack := 6, maxLocals := 3, code := jdk_65_method_121_code, exceptionTable := #[], attributes := #[] }
def k17m1 : Method := { name := "copyOf", desc := "([BI)[B", sig := { parameters := [(.array .byte), .int], returnType := some (.array .byte) }, accessFlags := 9, code := some k17c1 }
def k17c2 : Code := { maxStack := 4, maxLocals := 2, code := jdk_65_method_131_code, exceptionTable := #[], attributes := #[] }
def k17m2 : Method := { name := "checkLength", desc := "(II)V", sig := { parameters := [.int, .int], returnType := none }, accessFlags := 10, code := some k17c2 }
def k17c3 : Code := { maxStack := 3, maxLocals := 3, code := jdk_65_method_132_code, exceptionTable := #[], attributes := #[] }
def k17m3 : Method := { name := "copyOfRange", desc := "([BII)[B", sig := { parameters := [(.array .byte), .int, .int], returnType := some (.array .byte) }, accessFlags := 9, code := some k17c3 }
def k17c4 : Code := { maxStack := 6, maxLocals := 5, code := jdk_65_method_133_code, exceptionTable := #[], attributes := #[] }
def k17m4 : Method := { name := "copyOfRangeByte", desc := "([BII)[B", sig := { parameters := [(.array .byte), .int, .int], returnType := some (.array .byte) }, accessFlags := 10, code := some k17c4 }
/-- java/util/Arrays -/
def k17 : Class := { plain "java/util/Arrays" (some 0) with
  accessFlags := 49
  interfaces := #[]
  cf := some (fileOf pool17 14 #[.nestMembers #[975, 375, 113, 74]] #[{ accessFlags := 2, nameIndex := 5, descriptorIndex := 6, attributes := #[] }, { accessFlags := 9, nameIndex := 302, descriptorIndex := 869, attributes := #[] }, { accessFlags := 10, nameIndex := 345, descriptorIndex := 346, attributes := #[] }, { accessFlags := 9, nameIndex := 139, descriptorIndex := 342, attributes := #[] }, { accessFlags := 10, nameIndex := 341, descriptorIndex := 342, attributes := #[] }] 49 2 #[] #[{ accessFlags := 26, nameIndex := 715, descriptorIndex := 716, attributes := #[] }, { accessFlags := 26, nameIndex := 719, descriptorIndex := 716, attributes := #[] }, { accessFlags := 4120, nameIndex := 445, descriptorIndex := 117, attributes := #[] }])
  fields := #[{ name := "MIN_ARRAY_SORT_GRAN", type := .int, accessFlags := 26, slot := 0, constantValue := 0 }, { name := "INSERTIONSORT_THRESHOLD", type := .int, accessFlags := 26, slot := 1, constantValue := 0 }, { name := "$assertionsDisabled", type := .boolean, accessFlags := 4120, slot := 2, constantValue := 0 }]
  methods := #[k17m0, k17m1, k17m2, k17m3, k17m4]
  instanceTypes := #[]
  staticTypes := #[.int, .int, .boolean]
  resolved := Array.replicate 1029 none
  statics := none }

def pool18 : Array CpInfo := pool [(1, .class_ 2), (0, u "java/lang/Cloneable"), (0, .class_ 4), (0, u "java/lang/Object")] 2

/-- java/lang/Cloneable -/
def k18 : Class := { plain "java/lang/Cloneable" (some 0) with
  accessFlags := 1537
  interfaces := #[]
  cf := some (fileOf pool18 1 #[] #[] 1537 3 #[] #[])
  fields := #[]
  methods := #[]
  instanceTypes := #[]
  staticTypes := #[]
  resolved := Array.replicate 7 none
  statics := none }

def pool19 : Array CpInfo := pool [(1, .class_ 2), (0, u "java/lang/String"), (1, .class_ 6), (1, u "java/lang/Object"), (0, u "<init>"), (0, u "()V"), (0, .methodref 1 10), (0, .nameAndType 11 12), (0, u "checkIndex"), (0, u "(II)V"), (1, .class_ 16), (1, u "java/lang/StringLatin1"), (36, u "([BI)C"), (36, u "canEncode"), (14, u "(C)Z"), (15, u "$assertionsDisabled"), (0, u "Z"), (98, .class_ 223), (1, u "java/lang/StringLatin1$LinesSpliterator"), (28, u "charAt"), (127, u "toBytes"), (1, u "(C)[B"), (7, .class_ 391), (0, u "java/lang/StringLatin1$CharsSpliterator")] 3

def k19m0 : Method := { name := "<init>", desc := "()V", sig := { parameters := [], returnType := none }, accessFlags := 0, code := none }
def k19c1 : Code := { maxStack := 2, maxLocals := 2, code := jdk_43_method_2_code, exceptionTable := #[], attributes := #[] }
def k19m1 : Method := { name := "charAt", desc := "([BI)C", sig := { parameters := [(.array .byte), .int], returnType := some .char }, accessFlags := 9, code := some k19c1 }
def k19c2 : Code := { maxStack := 2, maxLocals := 1, code := jdk_43_method_3_code, exceptionTable := #[], attributes := #[] }
def k19m2 : Method := { name := "canEncode", desc := "(C)Z", sig := { parameters := [.char], returnType := some .boolean }, accessFlags := 9, code := some k19c2 }
def k19c3 : Code := { maxStack := 4, maxLocals := 1, code := jdk_43_method_46_code, exceptionTable := #[], attributes := #[] }
def k19m3 : Method := { name := "toBytes", desc := "(C)[B", sig := { parameters := [.char], returnType := some (.array .byte) }, accessFlags := 9, code := some k19c3 }
/-- java/lang/StringLatin1 -/
def k19 : Class := { plain "java/lang/StringLatin1" (some 0) with
  accessFlags := 48
  interfaces := #[]
  cf := some (fileOf pool19 14 #[.nestMembers #[390, 221]] #[{ accessFlags := 0, nameIndex := 7, descriptorIndex := 8, attributes := #[] }, { accessFlags := 9, nameIndex := 252, descriptorIndex := 53, attributes := #[] }, { accessFlags := 9, nameIndex := 90, descriptorIndex := 105, attributes := #[] }, { accessFlags := 9, nameIndex := 380, descriptorIndex := 382, attributes := #[] }] 48 4 #[] #[{ accessFlags := 4120, nameIndex := 121, descriptorIndex := 122, attributes := #[] }])
  fields := #[{ name := "$assertionsDisabled", type := .boolean, accessFlags := 4120, slot := 0, constantValue := 0 }]
  methods := #[k19m0, k19m1, k19m2, k19m3]
  instanceTypes := #[]
  staticTypes := #[.boolean]
  resolved := Array.replicate 395 none
  statics := none }

def pool20 : Array CpInfo := pool [(2, .class_ 4), (1, u "java/lang/Object"), (0, u "<init>"), (0, u "()V"), (17, .class_ 26), (1, u "jdk/internal/util/Preconditions"), (6, u "checkIndex"), (21, .class_ 56), (0, u "jdk/internal/util/Preconditions$4"), (57, .class_ 115), (0, u "jdk/internal/util/Preconditions$1"), (7, u "SIOOBE_FORMATTER"), (0, u "Ljava/util/function/BiFunction;"), (0, .class_ 126), (0, u "jdk/internal/util/Preconditions$2"), (3, u "AIOOBE_FORMATTER"), (0, .class_ 132), (0, u "jdk/internal/util/Preconditions$3"), (3, u "IOOBE_FORMATTER"), (41, u "(IILjava/util/function/BiFunction;)I")] 15

def k20m0 : Method := { name := "<init>", desc := "()V", sig := { parameters := [], returnType := none }, accessFlags := 1, code := none }
def k20c1 : Code := { maxStack := 3, maxLocals := 3, code := jdk_41_method_11_code, exceptionTable := #[], attributes := #[] }
def k20m1 : Method := { name := "checkIndex", desc := "(IILjava/util/function/BiFunction;)I", sig := { parameters := [.int, .int, (.object "java/util/function/BiFunction")], returnType := some .int }, accessFlags := 9, code := some k20c1 }
/-- jdk/internal/util/Preconditions -/
def k20 : Class := { plain "jdk/internal/util/Preconditions" (some 0) with
  accessFlags := 33
  interfaces := #[]
  cf := some (fileOf pool20 24 #[.nestMembers #[55, 131, 125, 114]] #[{ accessFlags := 1, nameIndex := 5, descriptorIndex := 6, attributes := #[] }, { accessFlags := 9, nameIndex := 33, descriptorIndex := 178, attributes := #[] }] 33 2 #[] #[{ accessFlags := 25, nameIndex := 123, descriptorIndex := 124, attributes := #[] }, { accessFlags := 25, nameIndex := 130, descriptorIndex := 124, attributes := #[] }, { accessFlags := 25, nameIndex := 136, descriptorIndex := 124, attributes := #[] }])
  fields := #[{ name := "SIOOBE_FORMATTER", type := (.object "java/util/function/BiFunction"), accessFlags := 25, slot := 0, constantValue := 0 }, { name := "AIOOBE_FORMATTER", type := (.object "java/util/function/BiFunction"), accessFlags := 25, slot := 1, constantValue := 0 }, { name := "IOOBE_FORMATTER", type := (.object "java/util/function/BiFunction"), accessFlags := 25, slot := 2, constantValue := 0 }]
  methods := #[k20m0, k20m1]
  instanceTypes := #[]
  staticTypes := #[(.object "java/util/function/BiFunction"), (.object "java/util/function/BiFunction"), (.object "java/util/function/BiFunction")]
  resolved := Array.replicate 194 none
  statics := some 2 }

def pool21 : Array CpInfo := pool [(9, u "<init>"), (6, .class_ 18), (1, u "java/lang/Object"), (0, u "()V"), (1, .class_ 23), (1, u "jdk/internal/util/ArraysSupport"), (0, u "LOG2_ARRAY_LONG_INDEX_SCALE"), (0, u "I"), (2, u "U"), (0, u "Ljdk/internal/misc/Unsafe;"), (8, u "BIG_ENDIAN"), (0, u "Z"), (8, u "LOG2_BYTE_BIT_SIZE"), (4, u "LOG2_ARRAY_INT_INDEX_SCALE"), (54, u "JLA"), (0, u "Ljdk/internal/access/JavaLangAccess;"), (11, u "LOG2_ARRAY_BOOLEAN_INDEX_SCALE"), (9, u "LOG2_ARRAY_BYTE_INDEX_SCALE"), (5, u "LOG2_ARRAY_CHAR_INDEX_SCALE"), (5, u "LOG2_ARRAY_SHORT_INDEX_SCALE"), (18, u "LOG2_ARRAY_FLOAT_INDEX_SCALE"), (24, u "LOG2_ARRAY_DOUBLE_INDEX_SCALE"), (6, .methodref 195 196), (0, .class_ 197), (0, .nameAndType 198 199), (0, u "java/lang/Math"), (0, u "max"), (0, u "(II)I"), (0, .integer 2147483639), (76, u "T_BOOLEAN"), (2, u "T_CHAR"), (1, u "T_FLOAT"), (1, u "T_DOUBLE"), (1, u "T_BYTE"), (1, u "T_SHORT"), (1, u "T_INT"), (1, u "T_LONG"), (1, u "SOFT_MAX_ARRAY_LENGTH"), (56, u "newLength"), (0, u "(III)I")] 25

def k21m0 : Method := { name := "<init>", desc := "()V", sig := { parameters := [], returnType := none }, accessFlags := 2, code := none }
def k21c1 : Code := { maxStack := 3, maxLocals := 4, code := jdk_48_method_27_code, exceptionTable := #[], attributes := #[] }
def k21m1 : Method := { name := "newLength", desc := "(III)I", sig := { parameters := [.int, .int, .int], returnType := some .int }, accessFlags := 9, code := some k21c1 }
/-- jdk/internal/util/ArraysSupport -/
def k21 : Class := { plain "jdk/internal/util/ArraysSupport" (some 0) with
  accessFlags := 33
  interfaces := #[]
  cf := some (fileOf pool21 21 #[] #[{ accessFlags := 2, nameIndex := 9, descriptorIndex := 19, attributes := #[] }, { accessFlags := 9, nameIndex := 351, descriptorIndex := 352, attributes := #[] }] 33 16 #[] #[{ accessFlags := 24, nameIndex := 28, descriptorIndex := 29, attributes := #[] }, { accessFlags := 26, nameIndex := 38, descriptorIndex := 39, attributes := #[] }, { accessFlags := 25, nameIndex := 121, descriptorIndex := 25, attributes := #[] }, { accessFlags := 25, nameIndex := 131, descriptorIndex := 25, attributes := #[] }, { accessFlags := 25, nameIndex := 137, descriptorIndex := 25, attributes := #[] }, { accessFlags := 25, nameIndex := 143, descriptorIndex := 25, attributes := #[] }, { accessFlags := 25, nameIndex := 53, descriptorIndex := 25, attributes := #[] }, { accessFlags := 25, nameIndex := 24, descriptorIndex := 25, attributes := #[] }, { accessFlags := 25, nameIndex := 162, descriptorIndex := 25, attributes := #[] }, { accessFlags := 25, nameIndex := 187, descriptorIndex := 25, attributes := #[] }, { accessFlags := 26, nameIndex := 48, descriptorIndex := 25, attributes := #[] }, { accessFlags := 25, nameIndex := 277, descriptorIndex := 25, attributes := #[] }, { accessFlags := 25, nameIndex := 280, descriptorIndex := 25, attributes := #[] }, { accessFlags := 25, nameIndex := 282, descriptorIndex := 25, attributes := #[] }, { accessFlags := 25, nameIndex := 284, descriptorIndex := 25, attributes := #[] }, { accessFlags := 25, nameIndex := 286, descriptorIndex := 25, attributes := #[] }, { accessFlags := 25, nameIndex := 288, descriptorIndex := 25, attributes := #[] }, { accessFlags := 25, nameIndex := 290, descriptorIndex := 25, attributes := #[] }, { accessFlags := 25, nameIndex := 292, descriptorIndex := 25, attributes := #[] }, { accessFlags := 26, nameIndex := 108, descriptorIndex := 109, attributes := #[] }, { accessFlags := 25, nameIndex := 294, descriptorIndex := 25, attributes := #[] }])
  fields := #[{ name := "U", type := (.object "jdk/internal/misc/Unsafe"), accessFlags := 24, slot := 0, constantValue := 0 }, { name := "BIG_ENDIAN", type := .boolean, accessFlags := 26, slot := 1, constantValue := 0 }, { name := "LOG2_ARRAY_BOOLEAN_INDEX_SCALE", type := .int, accessFlags := 25, slot := 2, constantValue := 0 }, { name := "LOG2_ARRAY_BYTE_INDEX_SCALE", type := .int, accessFlags := 25, slot := 3, constantValue := 0 }, { name := "LOG2_ARRAY_CHAR_INDEX_SCALE", type := .int, accessFlags := 25, slot := 4, constantValue := 0 }, { name := "LOG2_ARRAY_SHORT_INDEX_SCALE", type := .int, accessFlags := 25, slot := 5, constantValue := 0 }, { name := "LOG2_ARRAY_INT_INDEX_SCALE", type := .int, accessFlags := 25, slot := 6, constantValue := 0 }, { name := "LOG2_ARRAY_LONG_INDEX_SCALE", type := .int, accessFlags := 25, slot := 7, constantValue := 0 }, { name := "LOG2_ARRAY_FLOAT_INDEX_SCALE", type := .int, accessFlags := 25, slot := 8, constantValue := 0 }, { name := "LOG2_ARRAY_DOUBLE_INDEX_SCALE", type := .int, accessFlags := 25, slot := 9, constantValue := 0 }, { name := "LOG2_BYTE_BIT_SIZE", type := .int, accessFlags := 26, slot := 10, constantValue := 0 }, { name := "T_BOOLEAN", type := .int, accessFlags := 25, slot := 11, constantValue := 0 }, { name := "T_CHAR", type := .int, accessFlags := 25, slot := 12, constantValue := 0 }, { name := "T_FLOAT", type := .int, accessFlags := 25, slot := 13, constantValue := 0 }, { name := "T_DOUBLE", type := .int, accessFlags := 25, slot := 14, constantValue := 0 }, { name := "T_BYTE", type := .int, accessFlags := 25, slot := 15, constantValue := 0 }, { name := "T_SHORT", type := .int, accessFlags := 25, slot := 16, constantValue := 0 }, { name := "T_INT", type := .int, accessFlags := 25, slot := 17, constantValue := 0 }, { name := "T_LONG", type := .int, accessFlags := 25, slot := 18, constantValue := 0 }, { name := "JLA", type := (.object "jdk/internal/access/JavaLangAccess"), accessFlags := 26, slot := 19, constantValue := 0 }, { name := "SOFT_MAX_ARRAY_LENGTH", type := .int, accessFlags := 25, slot := 20, constantValue := 0 }]
  methods := #[k21m0, k21m1]
  instanceTypes := #[]
  staticTypes := #[(.object "jdk/internal/misc/Unsafe"), .boolean, .int, .int, .int, .int, .int, .int, .int, .int, .int, .int, .int, .int, .int, .int, .int, .int, .int, (.object "jdk/internal/access/JavaLangAccess"), .int]
  resolved := Array.replicate 378 none
  statics := none }

def pool22 : Array CpInfo := pool [(1, .class_ 2), (0, u "java/lang/Math"), (1, .class_ 6), (1, u "java/lang/Object"), (0, u "<init>"), (0, u "()V"), (89, .class_ 100), (1, u "java/lang/Math$RandomNumberGeneratorHolder"), (71, u "negativeZeroFloatBits"), (0, u "J"), (2, u "negativeZeroDoubleBits"), (21, u "max"), (2, u "min"), (43, u "$assertionsDisabled"), (0, u "Z"), (88, u "(II)I"), (2, u "twoToTheDoubleScaleDown"), (0, u "D"), (4, u "twoToTheDoubleScaleUp"), (9, u "E"), (3, u "PI"), (2, u "TAU"), (2, u "DEGREES_TO_RADIANS"), (0, u "RADIANS_TO_DEGREES")] 94

def k22m0 : Method := { name := "<init>", desc := "()V", sig := { parameters := [], returnType := none }, accessFlags := 2, code := none }
def k22c1 : Code := { maxStack := 2, maxLocals := 2, code := jdk_29_method_65_code, exceptionTable := #[], attributes := #[] }
def k22m1 : Method := { name := "max", desc := "(II)I", sig := { parameters := [.int, .int], returnType := some .int }, accessFlags := 9, code := some k22c1 }
def k22c2 : Code := { maxStack := 2, maxLocals := 2, code := jdk_29_method_69_code, exceptionTable := #[], attributes := #[] }
def k22m2 : Method := { name := "min", desc := "(II)I", sig := { parameters := [.int, .int], returnType := some .int }, accessFlags := 9, code := some k22c2 }
/-- java/lang/Math -/
def k22 : Class := { plain "java/lang/Math" (some 0) with
  accessFlags := 49
  interfaces := #[]
  cf := some (fileOf pool22 1 #[.nestMembers #[98]] #[{ accessFlags := 2, nameIndex := 7, descriptorIndex := 8, attributes := #[] }, { accessFlags := 9, nameIndex := 198, descriptorIndex := 335, attributes := #[] }, { accessFlags := 9, nameIndex := 201, descriptorIndex := 335, attributes := #[] }] 49 4 #[] #[{ accessFlags := 25, nameIndex := 354, descriptorIndex := 339, attributes := #[] }, { accessFlags := 25, nameIndex := 358, descriptorIndex := 339, attributes := #[] }, { accessFlags := 25, nameIndex := 361, descriptorIndex := 339, attributes := #[] }, { accessFlags := 26, nameIndex := 364, descriptorIndex := 339, attributes := #[] }, { accessFlags := 26, nameIndex := 365, descriptorIndex := 339, attributes := #[] }, { accessFlags := 26, nameIndex := 172, descriptorIndex := 173, attributes := #[] }, { accessFlags := 26, nameIndex := 176, descriptorIndex := 173, attributes := #[] }, { accessFlags := 8, nameIndex := 344, descriptorIndex := 339, attributes := #[] }, { accessFlags := 8, nameIndex := 338, descriptorIndex := 339, attributes := #[] }, { accessFlags := 4120, nameIndex := 245, descriptorIndex := 246, attributes := #[] }])
  fields := #[{ name := "E", type := .double, accessFlags := 25, slot := 0, constantValue := 0 }, { name := "PI", type := .double, accessFlags := 25, slot := 1, constantValue := 0 }, { name := "TAU", type := .double, accessFlags := 25, slot := 2, constantValue := 0 }, { name := "DEGREES_TO_RADIANS", type := .double, accessFlags := 26, slot := 3, constantValue := 0 }, { name := "RADIANS_TO_DEGREES", type := .double, accessFlags := 26, slot := 4, constantValue := 0 }, { name := "negativeZeroFloatBits", type := .long, accessFlags := 26, slot := 5, constantValue := 0 }, { name := "negativeZeroDoubleBits", type := .long, accessFlags := 26, slot := 6, constantValue := 0 }, { name := "twoToTheDoubleScaleUp", type := .double, accessFlags := 8, slot := 7, constantValue := 0 }, { name := "twoToTheDoubleScaleDown", type := .double, accessFlags := 8, slot := 8, constantValue := 0 }, { name := "$assertionsDisabled", type := .boolean, accessFlags := 4120, slot := 9, constantValue := 0 }]
  methods := #[k22m0, k22m1, k22m2]
  instanceTypes := #[]
  staticTypes := #[.double, .double, .double, .double, .double, .long, .long, .double, .double, .boolean]
  resolved := Array.replicate 460 none
  statics := none }

def pool23 : Array CpInfo := pool [(6, .class_ 8), (1, u "java/lang/Object"), (0, u "<init>"), (0, u "()V"), (1, .class_ 14), (1, u "java/lang/StringUTF16"), (31, u "$assertionsDisabled"), (0, u "Z"), (13, u "HI_BYTE_SHIFT"), (0, u "I"), (2, u "LO_BYTE_SHIFT"), (49, .methodref 12 116), (0, .nameAndType 117 118), (0, u "compress"), (0, u "([CI[BII)I"), (3, u "([CII)[B"), (138, u "coderFromArrayLen"), (0, u "([BI)B"), (106, .class_ 371), (1, u "java/lang/StringUTF16$LinesSpliterator"), (58, u "MAX_LENGTH"), (196, .class_ 628), (0, u "java/lang/StringUTF16$CodePointsSpliterator"), (0, .class_ 630), (0, u "java/lang/StringUTF16$CharsSpliterator")] 4

def k23m0 : Method := { name := "<init>", desc := "()V", sig := { parameters := [], returnType := none }, accessFlags := 0, code := none }
def k23c1 : Code := { maxStack := 2, maxLocals := 2, code := jdk_52_method_15_code, exceptionTable := #[], attributes := #[] }
def k23m1 : Method := { name := "coderFromArrayLen", desc := "([BI)B", sig := { parameters := [(.array .byte), .int], returnType := some .byte }, accessFlags := 8, code := some k23c1 }
def k23c2 : Code := { maxStack := 5, maxLocals := 6, code := jdk_52_method_16_code, exceptionTable := #[], attributes := #[] }
def k23m2 : Method := { name := "compress", desc := "([CII)[B", sig := { parameters := [(.array .char), .int, .int], returnType := some (.array .byte) }, accessFlags := 9, code := some k23c2 }
def k23c3 : Code := { maxStack := 3, maxLocals := 7, code := jdk_52_method_21_code, exceptionTable := #[], attributes := #[] }
def k23m3 : Method := { name := "compress", desc := "([CI[BII)I", sig := { parameters := [(.array .char), .int, (.array .byte), .int, .int], returnType := some .int }, accessFlags := 9, code := some k23c3 }
/-- java/lang/StringUTF16 -/
def k23 : Class := { plain "java/lang/StringUTF16" (some 0) with
  accessFlags := 48
  interfaces := #[]
  cf := some (fileOf pool23 12 #[.nestMembers #[627, 629, 369]] #[{ accessFlags := 0, nameIndex := 9, descriptorIndex := 10, attributes := #[] }, { accessFlags := 8, nameIndex := 261, descriptorIndex := 262, attributes := #[] }, { accessFlags := 9, nameIndex := 117, descriptorIndex := 122, attributes := #[] }, { accessFlags := 9, nameIndex := 117, descriptorIndex := 118, attributes := #[] }] 48 6 #[] #[{ accessFlags := 26, nameIndex := 61, descriptorIndex := 62, attributes := #[] }, { accessFlags := 26, nameIndex := 65, descriptorIndex := 62, attributes := #[] }, { accessFlags := 24, nameIndex := 430, descriptorIndex := 62, attributes := #[] }, { accessFlags := 4120, nameIndex := 46, descriptorIndex := 47, attributes := #[] }])
  fields := #[{ name := "HI_BYTE_SHIFT", type := .int, accessFlags := 26, slot := 0, constantValue := 0 }, { name := "LO_BYTE_SHIFT", type := .int, accessFlags := 26, slot := 1, constantValue := 0 }, { name := "MAX_LENGTH", type := .int, accessFlags := 24, slot := 2, constantValue := 0 }, { name := "$assertionsDisabled", type := .boolean, accessFlags := 4120, slot := 3, constantValue := 0 }]
  methods := #[k23m0, k23m1, k23m2, k23m3]
  instanceTypes := #[]
  staticTypes := #[.int, .int, .int, .boolean]
  resolved := Array.replicate 635 none
  statics := none }

/-- the primitive byte -/
def k24 : Class := { plain "byte" none with kind := .primitive 'B', accessFlags := 0x411 }
/-- [B -/
def k25 : Class := { plain "[B" (some 0) with kind := .array 24 .byte, interfaces := #[18, 2], accessFlags := 1041 }

/-- the primitive char -/
def k26 : Class := { plain "char" none with kind := .primitive 'C', accessFlags := 0x411 }
/-- [C -/
def k27 : Class := { plain "[C" (some 0) with kind := .array 26 .char, interfaces := #[18, 2], accessFlags := 1041 }

/-- the primitive int -/
def k28 : Class := { plain "int" none with kind := .primitive 'I', accessFlags := 0x411 }
/-- [I -/
def k29 : Class := { plain "[I" (some 0) with kind := .array 28 .int, interfaces := #[18, 2], accessFlags := 1041 }

def heap : Heap := #[{ cls := 7, slots := #[.long 0, .int 1, .null, .int 0, .null, .int 0, .int 0], vm := .statics 7 },
  { cls := 16, slots := #[.int 0, .int 0, .null, .null, .ref 4, .ref 3, .int 0, .int 0, .long 0], vm := .statics 16 },
  { cls := 20, slots := #[.null, .null, .null], vm := .statics 20 },
  { cls := 25, slots := #[.int 48, .int 49, .int 50, .int 51, .int 52, .int 53, .int 54, .int 55, .int 56, .int 57, .int 48, .int 49, .int 50, .int 51, .int 52, .int 53, .int 54, .int 55, .int 56, .int 57, .int 48, .int 49, .int 50, .int 51, .int 52, .int 53, .int 54, .int 55, .int 56, .int 57, .int 48, .int 49, .int 50, .int 51, .int 52, .int 53, .int 54, .int 55, .int 56, .int 57, .int 48, .int 49, .int 50, .int 51, .int 52, .int 53, .int 54, .int 55, .int 56, .int 57, .int 48, .int 49, .int 50, .int 51, .int 52, .int 53, .int 54, .int 55, .int 56, .int 57, .int 48, .int 49, .int 50, .int 51, .int 52, .int 53, .int 54, .int 55, .int 56, .int 57, .int 48, .int 49, .int 50, .int 51, .int 52, .int 53, .int 54, .int 55, .int 56, .int 57, .int 48, .int 49, .int 50, .int 51, .int 52, .int 53, .int 54, .int 55, .int 56, .int 57, .int 48, .int 49, .int 50, .int 51, .int 52, .int 53, .int 54, .int 55, .int 56, .int 57], vm := .none },
  { cls := 25, slots := #[.int 48, .int 48, .int 48, .int 48, .int 48, .int 48, .int 48, .int 48, .int 48, .int 48, .int 49, .int 49, .int 49, .int 49, .int 49, .int 49, .int 49, .int 49, .int 49, .int 49, .int 50, .int 50, .int 50, .int 50, .int 50, .int 50, .int 50, .int 50, .int 50, .int 50, .int 51, .int 51, .int 51, .int 51, .int 51, .int 51, .int 51, .int 51, .int 51, .int 51, .int 52, .int 52, .int 52, .int 52, .int 52, .int 52, .int 52, .int 52, .int 52, .int 52, .int 53, .int 53, .int 53, .int 53, .int 53, .int 53, .int 53, .int 53, .int 53, .int 53, .int 54, .int 54, .int 54, .int 54, .int 54, .int 54, .int 54, .int 54, .int 54, .int 54, .int 55, .int 55, .int 55, .int 55, .int 55, .int 55, .int 55, .int 55, .int 55, .int 55, .int 56, .int 56, .int 56, .int 56, .int 56, .int 56, .int 56, .int 56, .int 56, .int 56, .int 57, .int 57, .int 57, .int 57, .int 57, .int 57, .int 57, .int 57, .int 57, .int 57], vm := .none }]
def classes : Array Class := #[k0, k1, k2, k3, k4, k5, k6, k7, k8, k9, k10, k11, k12, k13, k14, k15, k16, k17, k18, k19, k20, k21, k22, k23, k24, k25, k26, k27, k28, k29]
def interned : List (Array UInt16 × Addr) := []
def slotsUsed : Nat := 219
def theMethod : MethodId := ⟨1, 1⟩
def args0 : Array Value := #[.long 5, .int 3, .int 4, .int 1]
def aboutOver (below : List Frame) : State where
  vm := { classes := classes, interned := interned.toArray }
  heap := heap
  slotsUsed := slotsUsed
  threads := #[{ frames := .invoking theMethod args0 :: below }]
def below0 : List Frame := [.native { method := ⟨0, 0⟩, args := #[] }]
def about1 : State := aboutOver below0
def p0 : Program := .bare "" "" ""
def e0 : Env := launch0.env 0 0 0
theorem w_frames : about1.frames = Frame.invoking theMethod args0 :: below0 := rfl
set_option maxRecDepth 65536 in
theorem w_args : argsFit about1.vm theMethod args0 = true := by decide +kernel
set_option maxRecDepth 65536 in
theorem w_heap : heapFits about1 = true := by decide +kernel
set_option maxRecDepth 65536 in
theorem w_runnable : about1.curStatus? = some .runnable := by decide +kernel
set_option maxRecDepth 65536 in
theorem w_alone : about1.alone = true := by decide +kernel
set_option maxRecDepth 65536 in
theorem w_named : about1.methodNamed? x = some theMethod := by decide +kernel
set_option maxRecDepth 65536 in
theorem w_hears : about1.hears theMethod below0 = true := by decide +kernel
set_option maxRecDepth 65536 in
theorem w_ripe : about1.ripe theMethod args0 below0 = true := by decide +kernel
theorem w_running : about1.status = .running := rfl
set_option maxRecDepth 65536 in
theorem w_room : about1.hasRoom e0.platform room_1 = true :=
  launch0.hasRoom_least _ room_1 (by decide +kernel) (by decide +kernel) (by decide +kernel) (by decide +kernel) (by decide +kernel) (by decide +kernel)
theorem allAtoms_all (ts : List Jvm.Cond) (a : Array Jvm.Value) (st : Jvm.State) : (allAtoms ts).before a st = ts.all (fun c => c.before a st) := by
  induction ts with
  | nil => rfl
  | cons c t ih =>
    show (Jvm.Cond.and c (allAtoms t)).before a st = _
    rw [Jvm.Cond.before_and, ih, List.all_cons]
def words1 : List Jvm.Cond := Jvm.Cond.code x code maxLocals ret :: tables_1
/-- a 'code' word, met by the world's own term for the bytes: nothing is compared byte by byte -/
theorem code_word {y : MethodName} {bytes : ByteArray} {mx : Nat} {rt : Option FieldType} {a : Array Value} {s : State} {m : MethodId} {meth : Method} {c : Code} (h1 : s.methodNamed? y = some m) (h2 : s.vm.method? m = some meth) (h3 : meth.code = some c) (h4 : c.code = bytes)
    (h5 : (c.maxLocals == mx && c.exceptionTable.isEmpty && decide (c.maxStack ≤ mostOperands) && decide (meth.sig.returnType = rt) && !meth.locks && decide (parseMethodDescriptor y.desc = some meth.sig)) = true) : (Jvm.Cond.code y bytes mx rt).before a s = true := by
  simp only [Bool.and_eq_true, beq_iff_eq, Bool.not_eq_true', decide_eq_true_eq] at h5
  obtain ⟨⟨⟨⟨⟨g1, g2⟩, g3⟩, g4⟩, g5⟩, g6⟩ := h5
  simp [Cond.before, Cond.holds, Cond.value, h1, h2, h3, h4, g1, g2, g3, g4, g5, g6]
def isCode : Jvm.Cond → Bool
  | .code _ _ _ _ => true
  | _ => false
theorem all_split {L : List Jvm.Cond} {P : Jvm.Cond → Bool} (h1 : L.all (fun c => isCode c || P c) = true) (h2 : ∀ c ∈ L.filter isCode, P c = true) : L.all P = true := by
  refine List.all_eq_true.mpr fun c hc => ?_
  have h := List.all_eq_true.mp h1 c hc
  rcases Bool.eq_false_or_eq_true (isCode c) with hi | hi
  · exact h2 c (List.mem_filter.mpr ⟨hc, hi⟩)
  · simpa [hi] using h
set_option maxRecDepth 65536 in
theorem w_c0 : (Jvm.Cond.code x code maxLocals ret).before args0 about1 = true := code_word (m := ⟨1, 1⟩) (meth := k1m1) (c := k1c1) (by decide +kernel) rfl rfl rfl (by decide +kernel)
set_option maxRecDepth 65536 in
theorem w_c1 : (Jvm.Cond.code ({ cls := "java/lang/String", name := "<init>", desc := "([C)V" } : Jvm.MethodName) jdk_42_method_3_code (2 : Nat) (Option.none : Option Jvm.ClassFile.FieldType)).before args0 about1 = true := code_word (m := ⟨7, 1⟩) (meth := k7m1) (c := k7c1) (by decide +kernel) rfl rfl rfl (by decide +kernel)
set_option maxRecDepth 65536 in
theorem w_c2 : (Jvm.Cond.code ({ cls := "java/lang/String", name := "<init>", desc := "([CIILjava/lang/Void;)V" } : Jvm.MethodName) jdk_42_method_149_code (6 : Nat) (Option.none : Option Jvm.ClassFile.FieldType)).before args0 about1 = true := code_word (m := ⟨7, 7⟩) (meth := k7m7) (c := k7c7) (by decide +kernel) rfl rfl rfl (by decide +kernel)
set_option maxRecDepth 65536 in
theorem w_c3 : (Jvm.Cond.code ({ cls := "java/lang/Object", name := "<init>", desc := "()V" } : Jvm.MethodName) object_method_1_code (1 : Nat) (Option.none : Option Jvm.ClassFile.FieldType)).before args0 about1 = true := code_word (m := ⟨0, 0⟩) (meth := k0m0) (c := k0c0) (by decide +kernel) rfl rfl rfl (by decide +kernel)
set_option maxRecDepth 65536 in
theorem w_c4 : (Jvm.Cond.code ({ cls := "com/example/ossify/ossify/AppendReport$Refusal", name := "<init>", desc := "(JLjava/lang/String;)V" } : Jvm.MethodName) prog_2_method_1_code (4 : Nat) (Option.none : Option Jvm.ClassFile.FieldType)).before args0 about1 = true := code_word (m := ⟨9, 0⟩) (meth := k9m0) (c := k9c0) (by decide +kernel) rfl rfl rfl (by decide +kernel)
set_option maxRecDepth 65536 in
theorem w_c5 : (Jvm.Cond.code ({ cls := "java/lang/Record", name := "<init>", desc := "()V" } : Jvm.MethodName) jdk_30_method_1_code (1 : Nat) (Option.none : Option Jvm.ClassFile.FieldType)).before args0 about1 = true := code_word (m := ⟨8, 0⟩) (meth := k8m0) (c := k8c0) (by decide +kernel) rfl rfl rfl (by decide +kernel)
set_option maxRecDepth 65536 in
theorem w_c6 : (Jvm.Cond.code ({ cls := "com/example/ossify/ossify/AppendReport$Refusal", name := "describe", desc := "()Ljava/lang/String;" } : Jvm.MethodName) prog_2_method_2_code (1 : Nat) (Option.some (Jvm.ClassFile.FieldType.object "java/lang/String"))).before args0 about1 = true := code_word (m := ⟨9, 1⟩) (meth := k9m1) (c := k9c1) (by decide +kernel) rfl rfl rfl (by decide +kernel)
set_option maxRecDepth 65536 in
theorem w_c7 : (Jvm.Cond.code ({ cls := "java/lang/StringBuilder", name := "<init>", desc := "()V" } : Jvm.MethodName) jdk_67_method_1_code (1 : Nat) (Option.none : Option Jvm.ClassFile.FieldType)).before args0 about1 = true := code_word (m := ⟨12, 0⟩) (meth := k12m0) (c := k12c0) (by decide +kernel) rfl rfl rfl (by decide +kernel)
set_option maxRecDepth 65536 in
theorem w_c8 : (Jvm.Cond.code ({ cls := "java/lang/AbstractStringBuilder", name := "<init>", desc := "(I)V" } : Jvm.MethodName) jdk_68_method_2_code (2 : Nat) (Option.none : Option Jvm.ClassFile.FieldType)).before args0 about1 = true := code_word (m := ⟨11, 1⟩) (meth := k11m1) (c := k11c1) (by decide +kernel) rfl rfl rfl (by decide +kernel)
set_option maxRecDepth 65536 in
theorem w_c9 : (Jvm.Cond.code ({ cls := "java/lang/StringBuilder", name := "append", desc := "(Ljava/lang/String;)Ljava/lang/StringBuilder;" } : Jvm.MethodName) jdk_67_method_7_code (2 : Nat) (Option.some (Jvm.ClassFile.FieldType.object "java/lang/StringBuilder"))).before args0 about1 = true := code_word (m := ⟨12, 1⟩) (meth := k12m1) (c := k12c1) (by decide +kernel) rfl rfl rfl (by decide +kernel)
set_option maxRecDepth 65536 in
theorem w_c10 : (Jvm.Cond.code ({ cls := "java/lang/AbstractStringBuilder", name := "append", desc := "(Ljava/lang/String;)Ljava/lang/AbstractStringBuilder;" } : Jvm.MethodName) jdk_68_method_22_code (3 : Nat) (Option.some (Jvm.ClassFile.FieldType.object "java/lang/AbstractStringBuilder"))).before args0 about1 = true := code_word (m := ⟨11, 5⟩) (meth := k11m5) (c := k11c5) (by decide +kernel) rfl rfl rfl (by decide +kernel)
set_option maxRecDepth 65536 in
theorem w_c11 : (Jvm.Cond.code ({ cls := "java/lang/String", name := "length", desc := "()I" } : Jvm.MethodName) jdk_42_method_54_code (1 : Nat) (Option.some Jvm.ClassFile.FieldType.int)).before args0 about1 = true := code_word (m := ⟨7, 3⟩) (meth := k7m3) (c := k7c3) (by decide +kernel) rfl rfl rfl (by decide +kernel)
set_option maxRecDepth 65536 in
theorem w_c12 : (Jvm.Cond.code ({ cls := "java/lang/String", name := "coder", desc := "()B" } : Jvm.MethodName) jdk_42_method_152_code (1 : Nat) (Option.some Jvm.ClassFile.FieldType.byte)).before args0 about1 = true := code_word (m := ⟨7, 10⟩) (meth := k7m10) (c := k7c10) (by decide +kernel) rfl rfl rfl (by decide +kernel)
set_option maxRecDepth 65536 in
theorem w_c13 : (Jvm.Cond.code ({ cls := "java/lang/AbstractStringBuilder", name := "ensureCapacityInternal", desc := "(I)V" } : Jvm.MethodName) jdk_68_method_9_code (3 : Nat) (Option.none : Option Jvm.ClassFile.FieldType)).before args0 about1 = true := code_word (m := ⟨11, 3⟩) (meth := k11m3) (c := k11c3) (by decide +kernel) rfl rfl rfl (by decide +kernel)
set_option maxRecDepth 65536 in
theorem w_c14 : (Jvm.Cond.code ({ cls := "java/lang/AbstractStringBuilder", name := "putStringAt", desc := "(ILjava/lang/String;)V" } : Jvm.MethodName) jdk_68_method_73_code (3 : Nat) (Option.none : Option Jvm.ClassFile.FieldType)).before args0 about1 = true := code_word (m := ⟨11, 10⟩) (meth := k11m10) (c := k11c10) (by decide +kernel) rfl rfl rfl (by decide +kernel)
set_option maxRecDepth 65536 in
theorem w_c15 : (Jvm.Cond.code ({ cls := "java/lang/AbstractStringBuilder", name := "inflateIfNeededFor", desc := "(Ljava/lang/String;)V" } : Jvm.MethodName) jdk_68_method_71_code (2 : Nat) (Option.none : Option Jvm.ClassFile.FieldType)).before args0 about1 = true := code_word (m := ⟨11, 9⟩) (meth := k11m9) (c := k11c9) (by decide +kernel) rfl rfl rfl (by decide +kernel)
set_option maxRecDepth 65536 in
theorem w_c16 : (Jvm.Cond.code ({ cls := "java/lang/String", name := "getBytes", desc := "([BIB)V" } : Jvm.MethodName) jdk_42_method_147_code (4 : Nat) (Option.none : Option Jvm.ClassFile.FieldType)).before args0 about1 = true := code_word (m := ⟨7, 6⟩) (meth := k7m6) (c := k7c6) (by decide +kernel) rfl rfl rfl (by decide +kernel)
set_option maxRecDepth 65536 in
theorem w_c17 : (Jvm.Cond.code ({ cls := "java/lang/StringBuilder", name := "append", desc := "(J)Ljava/lang/StringBuilder;" } : Jvm.MethodName) jdk_67_method_16_code (3 : Nat) (Option.some (Jvm.ClassFile.FieldType.object "java/lang/StringBuilder"))).before args0 about1 = true := code_word (m := ⟨12, 2⟩) (meth := k12m2) (c := k12c2) (by decide +kernel) rfl rfl rfl (by decide +kernel)
set_option maxRecDepth 65536 in
theorem w_c18 : (Jvm.Cond.code ({ cls := "java/lang/AbstractStringBuilder", name := "append", desc := "(J)Ljava/lang/AbstractStringBuilder;" } : Jvm.MethodName) jdk_68_method_33_code (5 : Nat) (Option.some (Jvm.ClassFile.FieldType.object "java/lang/AbstractStringBuilder"))).before args0 about1 = true := code_word (m := ⟨11, 6⟩) (meth := k11m6) (c := k11c6) (by decide +kernel) rfl rfl rfl (by decide +kernel)
set_option maxRecDepth 65536 in
theorem w_c19 : (Jvm.Cond.code ({ cls := "java/lang/Long", name := "stringSize", desc := "(J)I" } : Jvm.MethodName) jdk_35_method_15_code (6 : Nat) (Option.some Jvm.ClassFile.FieldType.int)).before args0 about1 = true := code_word (m := ⟨15, 1⟩) (meth := k15m1) (c := k15c1) (by decide +kernel) rfl rfl rfl (by decide +kernel)
set_option maxRecDepth 65536 in
theorem w_c20 : (Jvm.Cond.code ({ cls := "java/lang/AbstractStringBuilder", name := "isLatin1", desc := "()Z" } : Jvm.MethodName) jdk_68_method_68_code (1 : Nat) (Option.some Jvm.ClassFile.FieldType.boolean)).before args0 about1 = true := code_word (m := ⟨11, 8⟩) (meth := k11m8) (c := k11c8) (by decide +kernel) rfl rfl rfl (by decide +kernel)
set_option maxRecDepth 65536 in
theorem w_c21 : (Jvm.Cond.code ({ cls := "java/lang/Long", name := "getChars", desc := "(JI[B)I" } : Jvm.MethodName) jdk_35_method_14_code (11 : Nat) (Option.some Jvm.ClassFile.FieldType.int)).before args0 about1 = true := code_word (m := ⟨15, 0⟩) (meth := k15m0) (c := k15c0) (by decide +kernel) rfl rfl rfl (by decide +kernel)
set_option maxRecDepth 65536 in
theorem w_c22 : (Jvm.Cond.code ({ cls := "java/lang/StringBuilder", name := "toString", desc := "()Ljava/lang/String;" } : Jvm.MethodName) jdk_67_method_42_code (1 : Nat) (Option.some (Jvm.ClassFile.FieldType.object "java/lang/String"))).before args0 about1 = true := code_word (m := ⟨12, 3⟩) (meth := k12m3) (c := k12c3) (by decide +kernel) rfl rfl rfl (by decide +kernel)
set_option maxRecDepth 65536 in
theorem w_c23 : (Jvm.Cond.code ({ cls := "java/lang/String", name := "<init>", desc := "(Ljava/lang/StringBuilder;)V" } : Jvm.MethodName) jdk_42_method_53_code (2 : Nat) (Option.none : Option Jvm.ClassFile.FieldType)).before args0 about1 = true := code_word (m := ⟨7, 2⟩) (meth := k7m2) (c := k7c2) (by decide +kernel) rfl rfl rfl (by decide +kernel)
set_option maxRecDepth 65536 in
theorem w_c24 : (Jvm.Cond.code ({ cls := "java/lang/String", name := "<init>", desc := "(Ljava/lang/AbstractStringBuilder;Ljava/lang/Void;)V" } : Jvm.MethodName) jdk_42_method_150_code (5 : Nat) (Option.none : Option Jvm.ClassFile.FieldType)).before args0 about1 = true := code_word (m := ⟨7, 8⟩) (meth := k7m8) (c := k7c8) (by decide +kernel) rfl rfl rfl (by decide +kernel)
set_option maxRecDepth 65536 in
theorem w_c25 : (Jvm.Cond.code ({ cls := "java/lang/AbstractStringBuilder", name := "getValue", desc := "()[B" } : Jvm.MethodName) jdk_68_method_64_code (1 : Nat) (Option.some (Jvm.ClassFile.FieldType.array Jvm.ClassFile.FieldType.byte))).before args0 about1 = true := code_word (m := ⟨11, 7⟩) (meth := k11m7) (c := k11c7) (by decide +kernel) rfl rfl rfl (by decide +kernel)
set_option maxRecDepth 65536 in
theorem w_c26 : (Jvm.Cond.code ({ cls := "java/lang/StringBuilder", name := "length", desc := "()I" } : Jvm.MethodName) jdk_67_method_93_code (1 : Nat) (Option.some Jvm.ClassFile.FieldType.int)).before args0 about1 = true := code_word (m := ⟨12, 4⟩) (meth := k12m4) (c := k12c4) (by decide +kernel) rfl rfl rfl (by decide +kernel)
set_option maxRecDepth 65536 in
theorem w_c27 : (Jvm.Cond.code ({ cls := "java/lang/AbstractStringBuilder", name := "length", desc := "()I" } : Jvm.MethodName) jdk_68_method_6_code (1 : Nat) (Option.some Jvm.ClassFile.FieldType.int)).before args0 about1 = true := code_word (m := ⟨11, 2⟩) (meth := k11m2) (c := k11c2) (by decide +kernel) rfl rfl rfl (by decide +kernel)
set_option maxRecDepth 65536 in
theorem w_c28 : (Jvm.Cond.code ({ cls := "java/util/Arrays", name := "copyOfRange", desc := "([BII)[B" } : Jvm.MethodName) jdk_65_method_132_code (3 : Nat) (Option.some (Jvm.ClassFile.FieldType.array Jvm.ClassFile.FieldType.byte))).before args0 about1 = true := code_word (m := ⟨17, 3⟩) (meth := k17m3) (c := k17c3) (by decide +kernel) rfl rfl rfl (by decide +kernel)
set_option maxRecDepth 65536 in
theorem w_c29 : (Jvm.Cond.code ({ cls := "com/example/ossify/ossify/RefusalDescribePinLaw", name := "countDigits", desc := "(J)I" } : Jvm.MethodName) method_4_code (3 : Nat) (Option.some Jvm.ClassFile.FieldType.int)).before args0 about1 = true := code_word (m := ⟨1, 3⟩) (meth := k1m3) (c := k1c3) (by decide +kernel) rfl rfl rfl (by decide +kernel)
set_option maxRecDepth 65536 in
theorem w_c30 : (Jvm.Cond.code ({ cls := "com/example/ossify/ossify/RefusalDescribePinLaw", name := "prefixOk", desc := "(Ljava/lang/String;)Z" } : Jvm.MethodName) method_3_code (1 : Nat) (Option.some Jvm.ClassFile.FieldType.boolean)).before args0 about1 = true := code_word (m := ⟨1, 2⟩) (meth := k1m2) (c := k1c2) (by decide +kernel) rfl rfl rfl (by decide +kernel)
set_option maxRecDepth 65536 in
theorem w_c31 : (Jvm.Cond.code ({ cls := "java/lang/String", name := "charAt", desc := "(I)C" } : Jvm.MethodName) jdk_42_method_56_code (2 : Nat) (Option.some Jvm.ClassFile.FieldType.char)).before args0 about1 = true := code_word (m := ⟨7, 4⟩) (meth := k7m4) (c := k7c4) (by decide +kernel) rfl rfl rfl (by decide +kernel)
set_option maxRecDepth 65536 in
theorem w_c32 : (Jvm.Cond.code ({ cls := "java/lang/String", name := "isLatin1", desc := "()Z" } : Jvm.MethodName) jdk_42_method_154_code (1 : Nat) (Option.some Jvm.ClassFile.FieldType.boolean)).before args0 about1 = true := code_word (m := ⟨7, 11⟩) (meth := k7m11) (c := k7c11) (by decide +kernel) rfl rfl rfl (by decide +kernel)
set_option maxRecDepth 65536 in
theorem w_c33 : (Jvm.Cond.code ({ cls := "java/lang/StringLatin1", name := "charAt", desc := "([BI)C" } : Jvm.MethodName) jdk_43_method_2_code (2 : Nat) (Option.some Jvm.ClassFile.FieldType.char)).before args0 about1 = true := code_word (m := ⟨19, 1⟩) (meth := k19m1) (c := k19c1) (by decide +kernel) rfl rfl rfl (by decide +kernel)
set_option maxRecDepth 65536 in
theorem w_c34 : (Jvm.Cond.code ({ cls := "java/lang/String", name := "checkIndex", desc := "(II)V" } : Jvm.MethodName) jdk_42_method_155_code (2 : Nat) (Option.none : Option Jvm.ClassFile.FieldType)).before args0 about1 = true := code_word (m := ⟨7, 12⟩) (meth := k7m12) (c := k7c12) (by decide +kernel) rfl rfl rfl (by decide +kernel)
set_option maxRecDepth 65536 in
theorem w_c35 : (Jvm.Cond.code ({ cls := "jdk/internal/util/Preconditions", name := "checkIndex", desc := "(IILjava/util/function/BiFunction;)I" } : Jvm.MethodName) jdk_41_method_11_code (3 : Nat) (Option.some Jvm.ClassFile.FieldType.int)).before args0 about1 = true := code_word (m := ⟨20, 1⟩) (meth := k20m1) (c := k20c1) (by decide +kernel) rfl rfl rfl (by decide +kernel)
set_option maxRecDepth 65536 in
theorem w_c36 : (Jvm.Cond.code ({ cls := "com/example/ossify/ossify/RefusalDescribePinLaw", name := "digitOk", desc := "(Ljava/lang/String;IJJII)Z" } : Jvm.MethodName) method_5_code (9 : Nat) (Option.some Jvm.ClassFile.FieldType.boolean)).before args0 about1 = true := code_word (m := ⟨1, 4⟩) (meth := k1m4) (c := k1c4) (by decide +kernel) rfl rfl rfl (by decide +kernel)
set_option maxRecDepth 65536 in
theorem w_c37 : (Jvm.Cond.code ({ cls := "java/lang/String", name := "valueOf", desc := "(C)Ljava/lang/String;" } : Jvm.MethodName) jdk_42_method_139_code (1 : Nat) (Option.some (Jvm.ClassFile.FieldType.object "java/lang/String"))).before args0 about1 = true := code_word (m := ⟨7, 5⟩) (meth := k7m5) (c := k7c5) (by decide +kernel) rfl rfl rfl (by decide +kernel)
set_option maxRecDepth 65536 in
theorem w_c38 : (Jvm.Cond.code ({ cls := "java/lang/StringLatin1", name := "canEncode", desc := "(C)Z" } : Jvm.MethodName) jdk_43_method_3_code (1 : Nat) (Option.some Jvm.ClassFile.FieldType.boolean)).before args0 about1 = true := code_word (m := ⟨19, 2⟩) (meth := k19m2) (c := k19c2) (by decide +kernel) rfl rfl rfl (by decide +kernel)
set_option maxRecDepth 65536 in
theorem w_c39 : (Jvm.Cond.code ({ cls := "java/lang/StringLatin1", name := "toBytes", desc := "(C)[B" } : Jvm.MethodName) jdk_43_method_46_code (1 : Nat) (Option.some (Jvm.ClassFile.FieldType.array Jvm.ClassFile.FieldType.byte))).before args0 about1 = true := code_word (m := ⟨19, 3⟩) (meth := k19m3) (c := k19c3) (by decide +kernel) rfl rfl rfl (by decide +kernel)
set_option maxRecDepth 65536 in
theorem w_c40 : (Jvm.Cond.code ({ cls := "java/lang/String", name := "<init>", desc := "([BB)V" } : Jvm.MethodName) jdk_42_method_151_code (3 : Nat) (Option.none : Option Jvm.ClassFile.FieldType)).before args0 about1 = true := code_word (m := ⟨7, 9⟩) (meth := k7m9) (c := k7c9) (by decide +kernel) rfl rfl rfl (by decide +kernel)
set_option maxRecDepth 65536 in
theorem w_c41 : (Jvm.Cond.code ({ cls := "java/lang/AbstractStringBuilder", name := "newCapacity", desc := "(I)I" } : Jvm.MethodName) jdk_68_method_10_code (6 : Nat) (Option.some Jvm.ClassFile.FieldType.int)).before args0 about1 = true := code_word (m := ⟨11, 4⟩) (meth := k11m4) (c := k11c4) (by decide +kernel) rfl rfl rfl (by decide +kernel)
set_option maxRecDepth 65536 in
theorem w_c42 : (Jvm.Cond.code ({ cls := "jdk/internal/util/ArraysSupport", name := "newLength", desc := "(III)I" } : Jvm.MethodName) jdk_48_method_27_code (4 : Nat) (Option.some Jvm.ClassFile.FieldType.int)).before args0 about1 = true := code_word (m := ⟨21, 1⟩) (meth := k21m1) (c := k21c1) (by decide +kernel) rfl rfl rfl (by decide +kernel)
set_option maxRecDepth 65536 in
theorem w_c43 : (Jvm.Cond.code ({ cls := "java/lang/Math", name := "max", desc := "(II)I" } : Jvm.MethodName) jdk_29_method_65_code (2 : Nat) (Option.some Jvm.ClassFile.FieldType.int)).before args0 about1 = true := code_word (m := ⟨22, 1⟩) (meth := k22m1) (c := k22c1) (by decide +kernel) rfl rfl rfl (by decide +kernel)
set_option maxRecDepth 65536 in
theorem w_c44 : (Jvm.Cond.code ({ cls := "java/util/Arrays", name := "copyOf", desc := "([BI)[B" } : Jvm.MethodName) jdk_65_method_121_code (3 : Nat) (Option.some (Jvm.ClassFile.FieldType.array Jvm.ClassFile.FieldType.byte))).before args0 about1 = true := code_word (m := ⟨17, 1⟩) (meth := k17m1) (c := k17c1) (by decide +kernel) rfl rfl rfl (by decide +kernel)
set_option maxRecDepth 65536 in
theorem w_c45 : (Jvm.Cond.code ({ cls := "java/lang/Math", name := "min", desc := "(II)I" } : Jvm.MethodName) jdk_29_method_69_code (2 : Nat) (Option.some Jvm.ClassFile.FieldType.int)).before args0 about1 = true := code_word (m := ⟨22, 2⟩) (meth := k22m2) (c := k22c2) (by decide +kernel) rfl rfl rfl (by decide +kernel)
set_option maxRecDepth 65536 in
theorem w_c46 : (Jvm.Cond.code ({ cls := "java/util/Arrays", name := "copyOfRangeByte", desc := "([BII)[B" } : Jvm.MethodName) jdk_65_method_133_code (5 : Nat) (Option.some (Jvm.ClassFile.FieldType.array Jvm.ClassFile.FieldType.byte))).before args0 about1 = true := code_word (m := ⟨17, 4⟩) (meth := k17m4) (c := k17c4) (by decide +kernel) rfl rfl rfl (by decide +kernel)
set_option maxRecDepth 65536 in
theorem w_c47 : (Jvm.Cond.code ({ cls := "java/util/Arrays", name := "checkLength", desc := "(II)V" } : Jvm.MethodName) jdk_65_method_131_code (2 : Nat) (Option.none : Option Jvm.ClassFile.FieldType)).before args0 about1 = true := code_word (m := ⟨17, 2⟩) (meth := k17m2) (c := k17c2) (by decide +kernel) rfl rfl rfl (by decide +kernel)
set_option maxRecDepth 65536 in
theorem w_c48 : (Jvm.Cond.code ({ cls := "java/lang/StringUTF16", name := "compress", desc := "([CII)[B" } : Jvm.MethodName) jdk_52_method_16_code (6 : Nat) (Option.some (Jvm.ClassFile.FieldType.array Jvm.ClassFile.FieldType.byte))).before args0 about1 = true := code_word (m := ⟨23, 2⟩) (meth := k23m2) (c := k23c2) (by decide +kernel) rfl rfl rfl (by decide +kernel)
set_option maxRecDepth 65536 in
theorem w_c49 : (Jvm.Cond.code ({ cls := "java/lang/StringUTF16", name := "compress", desc := "([CI[BII)I" } : Jvm.MethodName) jdk_52_method_21_code (7 : Nat) (Option.some Jvm.ClassFile.FieldType.int)).before args0 about1 = true := code_word (m := ⟨23, 3⟩) (meth := k23m3) (c := k23c3) (by decide +kernel) rfl rfl rfl (by decide +kernel)
set_option maxRecDepth 65536 in
theorem w_c50 : (Jvm.Cond.code ({ cls := "java/lang/StringUTF16", name := "coderFromArrayLen", desc := "([BI)B" } : Jvm.MethodName) jdk_52_method_15_code (2 : Nat) (Option.some Jvm.ClassFile.FieldType.byte)).before args0 about1 = true := code_word (m := ⟨23, 1⟩) (meth := k23m1) (c := k23c1) (by decide +kernel) rfl rfl rfl (by decide +kernel)
def codes1 : List Jvm.Cond := [Jvm.Cond.code x code maxLocals ret, Jvm.Cond.code ({ cls := "java/lang/String", name := "<init>", desc := "([C)V" } : Jvm.MethodName) jdk_42_method_3_code (2 : Nat) (Option.none : Option Jvm.ClassFile.FieldType), Jvm.Cond.code ({ cls := "java/lang/String", name := "<init>", desc := "([CIILjava/lang/Void;)V" } : Jvm.MethodName) jdk_42_method_149_code (6 : Nat) (Option.none : Option Jvm.ClassFile.FieldType), Jvm.Cond.code ({ cls := "java/lang/Object", name := "<init>", desc := "()V" } : Jvm.MethodName) object_method_1_code (1 : Nat) (Option.none : Option Jvm.ClassFile.FieldType), Jvm.Cond.code ({ cls := "com/example/ossify/ossify/AppendReport$Refusal", name := "<init>", desc := "(JLjava/lang/String;)V" } : Jvm.MethodName) prog_2_method_1_code (4 : Nat) (Option.none : Option Jvm.ClassFile.FieldType), Jvm.Cond.code ({ cls := "java/lang/Record", name := "<init>", desc := "()V" } : Jvm.MethodName) jdk_30_method_1_code (1 : Nat) (Option.none : Option Jvm.ClassFile.FieldType), Jvm.Cond.code ({ cls := "com/example/ossify/ossify/AppendReport$Refusal", name := "describe", desc := "()Ljava/lang/String;" } : Jvm.MethodName) prog_2_method_2_code (1 : Nat) (Option.some (Jvm.ClassFile.FieldType.object "java/lang/String")), Jvm.Cond.code ({ cls := "java/lang/StringBuilder", name := "<init>", desc := "()V" } : Jvm.MethodName) jdk_67_method_1_code (1 : Nat) (Option.none : Option Jvm.ClassFile.FieldType), Jvm.Cond.code ({ cls := "java/lang/AbstractStringBuilder", name := "<init>", desc := "(I)V" } : Jvm.MethodName) jdk_68_method_2_code (2 : Nat) (Option.none : Option Jvm.ClassFile.FieldType), Jvm.Cond.code ({ cls := "java/lang/StringBuilder", name := "append", desc := "(Ljava/lang/String;)Ljava/lang/StringBuilder;" } : Jvm.MethodName) jdk_67_method_7_code (2 : Nat) (Option.some (Jvm.ClassFile.FieldType.object "java/lang/StringBuilder")), Jvm.Cond.code ({ cls := "java/lang/AbstractStringBuilder", name := "append", desc := "(Ljava/lang/String;)Ljava/lang/AbstractStringBuilder;" } : Jvm.MethodName) jdk_68_method_22_code (3 : Nat) (Option.some (Jvm.ClassFile.FieldType.object "java/lang/AbstractStringBuilder")), Jvm.Cond.code ({ cls := "java/lang/String", name := "length", desc := "()I" } : Jvm.MethodName) jdk_42_method_54_code (1 : Nat) (Option.some Jvm.ClassFile.FieldType.int), Jvm.Cond.code ({ cls := "java/lang/String", name := "coder", desc := "()B" } : Jvm.MethodName) jdk_42_method_152_code (1 : Nat) (Option.some Jvm.ClassFile.FieldType.byte), Jvm.Cond.code ({ cls := "java/lang/AbstractStringBuilder", name := "ensureCapacityInternal", desc := "(I)V" } : Jvm.MethodName) jdk_68_method_9_code (3 : Nat) (Option.none : Option Jvm.ClassFile.FieldType), Jvm.Cond.code ({ cls := "java/lang/AbstractStringBuilder", name := "putStringAt", desc := "(ILjava/lang/String;)V" } : Jvm.MethodName) jdk_68_method_73_code (3 : Nat) (Option.none : Option Jvm.ClassFile.FieldType), Jvm.Cond.code ({ cls := "java/lang/AbstractStringBuilder", name := "inflateIfNeededFor", desc := "(Ljava/lang/String;)V" } : Jvm.MethodName) jdk_68_method_71_code (2 : Nat) (Option.none : Option Jvm.ClassFile.FieldType), Jvm.Cond.code ({ cls := "java/lang/String", name := "getBytes", desc := "([BIB)V" } : Jvm.MethodName) jdk_42_method_147_code (4 : Nat) (Option.none : Option Jvm.ClassFile.FieldType), Jvm.Cond.code ({ cls := "java/lang/StringBuilder", name := "append", desc := "(J)Ljava/lang/StringBuilder;" } : Jvm.MethodName) jdk_67_method_16_code (3 : Nat) (Option.some (Jvm.ClassFile.FieldType.object "java/lang/StringBuilder")), Jvm.Cond.code ({ cls := "java/lang/AbstractStringBuilder", name := "append", desc := "(J)Ljava/lang/AbstractStringBuilder;" } : Jvm.MethodName) jdk_68_method_33_code (5 : Nat) (Option.some (Jvm.ClassFile.FieldType.object "java/lang/AbstractStringBuilder")), Jvm.Cond.code ({ cls := "java/lang/Long", name := "stringSize", desc := "(J)I" } : Jvm.MethodName) jdk_35_method_15_code (6 : Nat) (Option.some Jvm.ClassFile.FieldType.int), Jvm.Cond.code ({ cls := "java/lang/AbstractStringBuilder", name := "isLatin1", desc := "()Z" } : Jvm.MethodName) jdk_68_method_68_code (1 : Nat) (Option.some Jvm.ClassFile.FieldType.boolean), Jvm.Cond.code ({ cls := "java/lang/Long", name := "getChars", desc := "(JI[B)I" } : Jvm.MethodName) jdk_35_method_14_code (11 : Nat) (Option.some Jvm.ClassFile.FieldType.int), Jvm.Cond.code ({ cls := "java/lang/StringBuilder", name := "toString", desc := "()Ljava/lang/String;" } : Jvm.MethodName) jdk_67_method_42_code (1 : Nat) (Option.some (Jvm.ClassFile.FieldType.object "java/lang/String")), Jvm.Cond.code ({ cls := "java/lang/String", name := "<init>", desc := "(Ljava/lang/StringBuilder;)V" } : Jvm.MethodName) jdk_42_method_53_code (2 : Nat) (Option.none : Option Jvm.ClassFile.FieldType), Jvm.Cond.code ({ cls := "java/lang/String", name := "<init>", desc := "(Ljava/lang/AbstractStringBuilder;Ljava/lang/Void;)V" } : Jvm.MethodName) jdk_42_method_150_code (5 : Nat) (Option.none : Option Jvm.ClassFile.FieldType), Jvm.Cond.code ({ cls := "java/lang/AbstractStringBuilder", name := "getValue", desc := "()[B" } : Jvm.MethodName) jdk_68_method_64_code (1 : Nat) (Option.some (Jvm.ClassFile.FieldType.array Jvm.ClassFile.FieldType.byte)), Jvm.Cond.code ({ cls := "java/lang/StringBuilder", name := "length", desc := "()I" } : Jvm.MethodName) jdk_67_method_93_code (1 : Nat) (Option.some Jvm.ClassFile.FieldType.int), Jvm.Cond.code ({ cls := "java/lang/AbstractStringBuilder", name := "length", desc := "()I" } : Jvm.MethodName) jdk_68_method_6_code (1 : Nat) (Option.some Jvm.ClassFile.FieldType.int), Jvm.Cond.code ({ cls := "java/util/Arrays", name := "copyOfRange", desc := "([BII)[B" } : Jvm.MethodName) jdk_65_method_132_code (3 : Nat) (Option.some (Jvm.ClassFile.FieldType.array Jvm.ClassFile.FieldType.byte)), Jvm.Cond.code ({ cls := "com/example/ossify/ossify/RefusalDescribePinLaw", name := "countDigits", desc := "(J)I" } : Jvm.MethodName) method_4_code (3 : Nat) (Option.some Jvm.ClassFile.FieldType.int), Jvm.Cond.code ({ cls := "com/example/ossify/ossify/RefusalDescribePinLaw", name := "prefixOk", desc := "(Ljava/lang/String;)Z" } : Jvm.MethodName) method_3_code (1 : Nat) (Option.some Jvm.ClassFile.FieldType.boolean), Jvm.Cond.code ({ cls := "java/lang/String", name := "charAt", desc := "(I)C" } : Jvm.MethodName) jdk_42_method_56_code (2 : Nat) (Option.some Jvm.ClassFile.FieldType.char), Jvm.Cond.code ({ cls := "java/lang/String", name := "isLatin1", desc := "()Z" } : Jvm.MethodName) jdk_42_method_154_code (1 : Nat) (Option.some Jvm.ClassFile.FieldType.boolean), Jvm.Cond.code ({ cls := "java/lang/StringLatin1", name := "charAt", desc := "([BI)C" } : Jvm.MethodName) jdk_43_method_2_code (2 : Nat) (Option.some Jvm.ClassFile.FieldType.char), Jvm.Cond.code ({ cls := "java/lang/String", name := "checkIndex", desc := "(II)V" } : Jvm.MethodName) jdk_42_method_155_code (2 : Nat) (Option.none : Option Jvm.ClassFile.FieldType), Jvm.Cond.code ({ cls := "jdk/internal/util/Preconditions", name := "checkIndex", desc := "(IILjava/util/function/BiFunction;)I" } : Jvm.MethodName) jdk_41_method_11_code (3 : Nat) (Option.some Jvm.ClassFile.FieldType.int), Jvm.Cond.code ({ cls := "com/example/ossify/ossify/RefusalDescribePinLaw", name := "digitOk", desc := "(Ljava/lang/String;IJJII)Z" } : Jvm.MethodName) method_5_code (9 : Nat) (Option.some Jvm.ClassFile.FieldType.boolean), Jvm.Cond.code ({ cls := "java/lang/String", name := "valueOf", desc := "(C)Ljava/lang/String;" } : Jvm.MethodName) jdk_42_method_139_code (1 : Nat) (Option.some (Jvm.ClassFile.FieldType.object "java/lang/String")), Jvm.Cond.code ({ cls := "java/lang/StringLatin1", name := "canEncode", desc := "(C)Z" } : Jvm.MethodName) jdk_43_method_3_code (1 : Nat) (Option.some Jvm.ClassFile.FieldType.boolean), Jvm.Cond.code ({ cls := "java/lang/StringLatin1", name := "toBytes", desc := "(C)[B" } : Jvm.MethodName) jdk_43_method_46_code (1 : Nat) (Option.some (Jvm.ClassFile.FieldType.array Jvm.ClassFile.FieldType.byte)), Jvm.Cond.code ({ cls := "java/lang/String", name := "<init>", desc := "([BB)V" } : Jvm.MethodName) jdk_42_method_151_code (3 : Nat) (Option.none : Option Jvm.ClassFile.FieldType), Jvm.Cond.code ({ cls := "java/lang/AbstractStringBuilder", name := "newCapacity", desc := "(I)I" } : Jvm.MethodName) jdk_68_method_10_code (6 : Nat) (Option.some Jvm.ClassFile.FieldType.int), Jvm.Cond.code ({ cls := "jdk/internal/util/ArraysSupport", name := "newLength", desc := "(III)I" } : Jvm.MethodName) jdk_48_method_27_code (4 : Nat) (Option.some Jvm.ClassFile.FieldType.int), Jvm.Cond.code ({ cls := "java/lang/Math", name := "max", desc := "(II)I" } : Jvm.MethodName) jdk_29_method_65_code (2 : Nat) (Option.some Jvm.ClassFile.FieldType.int), Jvm.Cond.code ({ cls := "java/util/Arrays", name := "copyOf", desc := "([BI)[B" } : Jvm.MethodName) jdk_65_method_121_code (3 : Nat) (Option.some (Jvm.ClassFile.FieldType.array Jvm.ClassFile.FieldType.byte)), Jvm.Cond.code ({ cls := "java/lang/Math", name := "min", desc := "(II)I" } : Jvm.MethodName) jdk_29_method_69_code (2 : Nat) (Option.some Jvm.ClassFile.FieldType.int), Jvm.Cond.code ({ cls := "java/util/Arrays", name := "copyOfRangeByte", desc := "([BII)[B" } : Jvm.MethodName) jdk_65_method_133_code (5 : Nat) (Option.some (Jvm.ClassFile.FieldType.array Jvm.ClassFile.FieldType.byte)), Jvm.Cond.code ({ cls := "java/util/Arrays", name := "checkLength", desc := "(II)V" } : Jvm.MethodName) jdk_65_method_131_code (2 : Nat) (Option.none : Option Jvm.ClassFile.FieldType), Jvm.Cond.code ({ cls := "java/lang/StringUTF16", name := "compress", desc := "([CII)[B" } : Jvm.MethodName) jdk_52_method_16_code (6 : Nat) (Option.some (Jvm.ClassFile.FieldType.array Jvm.ClassFile.FieldType.byte)), Jvm.Cond.code ({ cls := "java/lang/StringUTF16", name := "compress", desc := "([CI[BII)I" } : Jvm.MethodName) jdk_52_method_21_code (7 : Nat) (Option.some Jvm.ClassFile.FieldType.int), Jvm.Cond.code ({ cls := "java/lang/StringUTF16", name := "coderFromArrayLen", desc := "([BI)B" } : Jvm.MethodName) jdk_52_method_15_code (2 : Nat) (Option.some Jvm.ClassFile.FieldType.byte)]
set_option maxRecDepth 65536 in
theorem codes_eq : words1.filter isCode = codes1 := rfl
theorem w_codes : ∀ c ∈ words1.filter isCode, c.before args0 about1 = true := by
  rw [codes_eq]
  intro c hc
  simp only [codes1, List.mem_cons, List.not_mem_nil, or_false] at hc
  rcases hc with rfl | rfl | rfl | rfl | rfl | rfl | rfl | rfl | rfl | rfl | rfl | rfl | rfl | rfl | rfl | rfl | rfl | rfl | rfl | rfl | rfl | rfl | rfl | rfl | rfl | rfl | rfl | rfl | rfl | rfl | rfl | rfl | rfl | rfl | rfl | rfl | rfl | rfl | rfl | rfl | rfl | rfl | rfl | rfl | rfl | rfl | rfl | rfl | rfl | rfl | rfl
  · exact w_c0
  · exact w_c1
  · exact w_c2
  · exact w_c3
  · exact w_c4
  · exact w_c5
  · exact w_c6
  · exact w_c7
  · exact w_c8
  · exact w_c9
  · exact w_c10
  · exact w_c11
  · exact w_c12
  · exact w_c13
  · exact w_c14
  · exact w_c15
  · exact w_c16
  · exact w_c17
  · exact w_c18
  · exact w_c19
  · exact w_c20
  · exact w_c21
  · exact w_c22
  · exact w_c23
  · exact w_c24
  · exact w_c25
  · exact w_c26
  · exact w_c27
  · exact w_c28
  · exact w_c29
  · exact w_c30
  · exact w_c31
  · exact w_c32
  · exact w_c33
  · exact w_c34
  · exact w_c35
  · exact w_c36
  · exact w_c37
  · exact w_c38
  · exact w_c39
  · exact w_c40
  · exact w_c41
  · exact w_c42
  · exact w_c43
  · exact w_c44
  · exact w_c45
  · exact w_c46
  · exact w_c47
  · exact w_c48
  · exact w_c49
  · exact w_c50
set_option maxRecDepth 65536 in
theorem w_t1 : (words1.take 24).all (fun c => isCode c || c.before args0 about1) = true := by decide +kernel
set_option maxRecDepth 65536 in
theorem w_t2 : ((words1.drop 24).take 24).all (fun c => isCode c || c.before args0 about1) = true := by decide +kernel
set_option maxRecDepth 65536 in
theorem w_t3 : (((words1.drop 24).drop 24).take 24).all (fun c => isCode c || c.before args0 about1) = true := by decide +kernel
set_option maxRecDepth 65536 in
theorem w_t4 : ((((words1.drop 24).drop 24).drop 24).take 24).all (fun c => isCode c || c.before args0 about1) = true := by decide +kernel
set_option maxRecDepth 65536 in
theorem w_t5 : (((((words1.drop 24).drop 24).drop 24).drop 24).take 24).all (fun c => isCode c || c.before args0 about1) = true := by decide +kernel
set_option maxRecDepth 65536 in
theorem w_t6 : ((((((words1.drop 24).drop 24).drop 24).drop 24).drop 24).take 24).all (fun c => isCode c || c.before args0 about1) = true := by decide +kernel
set_option maxRecDepth 65536 in
theorem w_t7 : (((((((words1.drop 24).drop 24).drop 24).drop 24).drop 24).drop 24).take 24).all (fun c => isCode c || c.before args0 about1) = true := by decide +kernel
set_option maxRecDepth 65536 in
theorem w_t8 : ((((((((words1.drop 24).drop 24).drop 24).drop 24).drop 24).drop 24).drop 24).take 24).all (fun c => isCode c || c.before args0 about1) = true := by decide +kernel
set_option maxRecDepth 65536 in
theorem w_t9 : (((((((((words1.drop 24).drop 24).drop 24).drop 24).drop 24).drop 24).drop 24).drop 24).take 24).all (fun c => isCode c || c.before args0 about1) = true := by decide +kernel
set_option maxRecDepth 65536 in
theorem w_t10 : ((((((((((words1.drop 24).drop 24).drop 24).drop 24).drop 24).drop 24).drop 24).drop 24).drop 24).take 24).all (fun c => isCode c || c.before args0 about1) = true := by decide +kernel
set_option maxRecDepth 65536 in
theorem w_t11 : (((((((((((words1.drop 24).drop 24).drop 24).drop 24).drop 24).drop 24).drop 24).drop 24).drop 24).drop 24).take 24).all (fun c => isCode c || c.before args0 about1) = true := by decide +kernel
set_option maxRecDepth 65536 in
theorem w_t12 : ((((((((((((words1.drop 24).drop 24).drop 24).drop 24).drop 24).drop 24).drop 24).drop 24).drop 24).drop 24).drop 24).take 24).all (fun c => isCode c || c.before args0 about1) = true := by decide +kernel
set_option maxRecDepth 65536 in
theorem w_t13 : ((((((((((((words1.drop 24).drop 24).drop 24).drop 24).drop 24).drop 24).drop 24).drop 24).drop 24).drop 24).drop 24).drop 24).all (fun c => isCode c || c.before args0 about1) = true := by decide +kernel
theorem w_tables : (allAtoms (Jvm.Cond.code x code maxLocals ret :: tables_1)).before args0 about1 = true := by
  rw [allAtoms_all]
  show words1.all (fun c => c.before args0 about1) = true
  refine all_split ?_ w_codes
  rw [← List.take_append_drop 24 words1, List.all_append, w_t1, ← List.take_append_drop 24 (words1.drop 24), List.all_append, w_t2, ← List.take_append_drop 24 ((words1.drop 24).drop 24), List.all_append, w_t3, ← List.take_append_drop 24 (((words1.drop 24).drop 24).drop 24), List.all_append, w_t4, ← List.take_append_drop 24 ((((words1.drop 24).drop 24).drop 24).drop 24), List.all_append, w_t5, ← List.take_append_drop 24 (((((words1.drop 24).drop 24).drop 24).drop 24).drop 24), List.all_append, w_t6, ← List.take_append_drop 24 ((((((words1.drop 24).drop 24).drop 24).drop 24).drop 24).drop 24), List.all_append, w_t7, ← List.take_append_drop 24 (((((((words1.drop 24).drop 24).drop 24).drop 24).drop 24).drop 24).drop 24), List.all_append, w_t8, ← List.take_append_drop 24 ((((((((words1.drop 24).drop 24).drop 24).drop 24).drop 24).drop 24).drop 24).drop 24), List.all_append, w_t9, ← List.take_append_drop 24 (((((((((words1.drop 24).drop 24).drop 24).drop 24).drop 24).drop 24).drop 24).drop 24).drop 24), List.all_append, w_t10, ← List.take_append_drop 24 ((((((((((words1.drop 24).drop 24).drop 24).drop 24).drop 24).drop 24).drop 24).drop 24).drop 24).drop 24), List.all_append, w_t11, ← List.take_append_drop 24 (((((((((((words1.drop 24).drop 24).drop 24).drop 24).drop 24).drop 24).drop 24).drop 24).drop 24).drop 24).drop 24), List.all_append, w_t12, w_t13]
  rfl
set_option maxRecDepth 65536 in
theorem w_rest : rest_1_c.before args0 about1 = true := by decide +kernel
set_option maxRecDepth 65536 in
theorem w_case : (Jvm.Cond.and given_1 narrow_1).before args0 about1 = true := by decide +kernel
set_option maxRecDepth 65536 in
theorem w_consts : constsHeld consts_1 about1 := Jvm.Lit.constsHeldB_iff.mp (by decide +kernel)
theorem w_applies : (headSpec (Jvm.Cond.code x code maxLocals ret :: tables_1) room_1).applies x e0.platform about1 = true :=
  (Spec.applies_iff w_frames).mpr ⟨w_running, w_runnable, w_alone, w_named, w_hears, w_ripe, w_room, w_tables⟩
theorem atStart : AtStart classFile x code maxLocals ret World_1 tables_1 room_1 Calls_1 rest_1 Pre_1 launch0 p0 e0 about1 theMethod args0 below0 :=
  ⟨lists_1, trivial, launch0.admits_env _ _ _, launch0.least_env, fairChoices_fair.cas, fairChoices_fair.clock, w_frames, w_args, w_heap, w_applies, ⟨w_consts, trivial⟩, w_rest, w_case⟩
end start1
theorem witness_1 : WitnessClaimed_1 := ⟨start1.p0, start1.e0, start1.about1, start1.theMethod, start1.args0, start1.below0, start1.atStart⟩
end Jvm.Pilot.@@N@@

import JvmDerived
import JvmDerived.Pilot.@@N@@Statement
import JvmDerived.Pilot.@@N@@Code
set_option linter.unusedVariables false
set_option linter.unusedSimpArgs false
@@BLOCK:NumsL.lean.txt@@
namespace Jvm.Pilot.@@N@@
open Jvm Jvm.ClassFile Sem Op Lib Jvm.Free Jvm.Stand Jvm.LawKit Jvm.RoadKit Bundle Jvm.Pilot.@@N@@.Jvm.D
section Own
variable {p : Program} {l : Launch} {e : Env} {R : Room} {s : State} {m : MethodId} {args : Array Value} {below : List Frame} {meth : Method} {c : Code} {Z : State} {a0 : Array Value} {own nm : String} {bs : ByteArray} {ml : Nat} {rt : Option FieldType} {n0 kc ks : Nat} {Q : Option Value → Heap → Prop} {F : Outcome → State → Prop} {T : State} {h : Heap} {k n : Nat} {pc pc' pc2 : Nat} {ls ls' : Array Slot} {st : List Value}
/-- all that a walk knows where it stands -/
def Here (p : Program) (l : Launch) (e : Env) (R : Room) (s : State) (m : MethodId) (args : Array Value) (below : List Frame) (meth : Method) (c : Code) (Z : State) (own nm : String) (bs : ByteArray) (ml : Nat) (rt : Option FieldType) (n0 : Nat) (T : State) (h : Heap) (k n : Nat) : Prop :=
  (p.tables.exec = Jvm.exec ∧ c.code = bs ∧ c.maxLocals = ml ∧ Z.Warmed39 s.vm ∧ s.vm.findClass own = some m.cls ∧ meth.name = nm ∧ meth.sig.returnType = rt ∧ meth.locks = false) ∧ n0 ≤ h.size ∧ T.heap = h ∧ ∃ locs, Stand p l e R s m args below meth c T locs k n ∧ Fr n0 locs
/-- from here the method returns, as Q says -/
def Run (p : Program) (e : Env) (below : List Frame) (F : Outcome → State → Prop) (T : State) (g : JFrame) : Prop :=
  ∃ s₂ o, Steps p.tables e below (T.setTop g) s₂ ∧ s₂.status = .running ∧ Ended s₂ below o ∧ F o s₂
/-- what a body's end owes -/
def Fnl (s : State) (n0 kc ks : Nat) (Q : Option Value → Heap → Prop) (o : Outcome) (s₂ : State) : Prop := ∃ v L, o = .returned v ∧ (Q v s₂.heap ∧ n0 ≤ s₂.heap.size ∧ Fr n0 L) ∧ FrameEnd s o s₂ L kc ks
/-- a body's contract -/
def Con (l : Launch) (Z : State) (y : MethodName) (bs : ByteArray) (ml : Nat) (rt : Option FieldType) (rm : Room) (as : Array Value) (h0 : Heap) (n0 kc ks : Nat) (Q : Option Value → Heap → Prop) : Prop :=
  ∀ ws, MetFree l y (head1 (Jvm.Cond.code y bs ml rt :: ws) rm) (fun a U => a = as ∧ Z.Warmed39 U.vm ∧ U.heap = h0) (fun _ _ _ _ _ => True) (fun _ U o U' => ∃ v L, o = .returned v ∧ (Q v U'.heap ∧ n0 ≤ U'.heap.size ∧ Fr n0 L) ∧ FrameEnd U o U' L kc ks)
theorem Run.of {T' : State} {g g' : JFrame} (q : ∀ t, Steps p.tables e below (T'.setTop g') t → Steps p.tables e below (T.setTop g) t) (r : Run p e below F T' g') : Run p e below F T g := by
  obtain ⟨s₂, o, w, r⟩ := r; exact ⟨s₂, o, q _ w, r⟩
theorem Con.of_body {y : MethodName} {rm : Room} {as : Array Value} (hp : plainName y.cls = true) (hef : ∀ m, entryFrame m as ml = mkF m 0 ls []) (Z0 : n0 ≤ h.size)
    (body : ∀ p e s m below meth c T, Here p l e rm s m as below meth c Z y.cls y.name bs ml rt n0 T h 0 0 → Run p e below (Fnl s n0 kc ks Q) T (mkF m 0 ls [])) : Con l Z y bs ml rt rm as h n0 kc ks Q := by
  intro ws
  refine MetFree.of_bodySF (plainFor_of_name hp) hisR ?_
  intro p e s m args below meth c s₁ Bd hml0 hP hK
  obtain ⟨rfl, hZ, hh⟩ := hP
  have e0 : s₁.heap = h := by rw [← hh, Bd.state]; rfl
  obtain ⟨s₂, o, q, r⟩ := body p e s m below meth c s₁ ⟨⟨Bd.exec, Bd.bytes, hml0, hZ, findClass_of_methodNamed Bd.named, (name_of_methodNamed Bd.named Bd.method).1, Bd.returns, Bd.notSynchronized⟩, Z0, e0, [], Stand.of_body Bd, Fr.nil n0⟩
  exact ⟨s₂, o, castTop (hef m) q, r⟩
theorem Here.sz (X : Here p l e R s m args below meth c Z own nm bs ml rt n0 T h k n) : n0 ≤ h.size := X.2.1
/-- the k-th word of the sheet -/
theorem wd (hw : ∀ d ∈ tables_1, d.before a0 Z = true) (i : Nat) {d : Jvm.Cond} (q : tables_1[i]? = some d) : d.before a0 Z = true := hw _ (List.mem_of_getElem? q)
def cnd : ClassFile.Cond → Int → Int → Prop
  | .eq, x, y => x = y
  | .ne, x, y => ¬ x = y
  | .lt, x, y => x < y
  | .ge, x, y => y ≤ x
  | .gt, x, y => y < x
  | .le, x, y => x ≤ y
theorem cnd_iff (cd : ClassFile.Cond) (x y : Int32) : if_icmp.holds cd x y = true ↔ cnd cd x.toInt y.toInt := by
  cases cd <;> simp [if_icmp.holds, cnd, Int32.lt_iff_toInt_lt, Int32.le_iff_toInt_le, ← Int32.toInt_inj]
theorem r_aloadN (X : Here p l e R s m args below meth c Z own nm bs ml rt n0 T h k n) {i : Fin 4} {a : Addr} (hd : decode bs pc = .ok (.aload_n i, 1)) (hl : ls[i.val]? = some (.val (.ref a))) (hp : pc + 1 = pc') (r : Run p e below F T (mkF m pc' ls (.ref a :: st))) : Run p e below F T (mkF m pc ls st) := by
  obtain ⟨⟨hx, hby, hml, hZ, hown, hnm, hret, hlk⟩, hs0, eT, locs, S, N⟩ := X
  subst hp
  exact Run.of (fun t q => XS.aloadN S.here hx rfl (hb hby hd) hl rfl q) r
theorem r_aload (X : Here p l e R s m args below meth c Z own nm bs ml rt n0 T h k n) {i : Nat} {a : Addr} (hd : decode bs pc = .ok (.aload i, 2)) (hl : ls[i]? = some (.val (.ref a))) (hp : pc + 2 = pc') (r : Run p e below F T (mkF m pc' ls (.ref a :: st))) : Run p e below F T (mkF m pc ls st) := by
  obtain ⟨⟨hx, hby, hml, hZ, hown, hnm, hret, hlk⟩, hs0, eT, locs, S, N⟩ := X
  subst hp
  exact Run.of (fun t q => XS.aload S.here hx rfl (hb hby hd) hl rfl q) r
theorem r_iloadN (X : Here p l e R s m args below meth c Z own nm bs ml rt n0 T h k n) {i : Fin 4} {v : Int32} (hd : decode bs pc = .ok (.iload_n i, 1)) (hl : ls[i.val]? = some (.val (.int v))) (hp : pc + 1 = pc') (r : Run p e below F T (mkF m pc' ls (.int v :: st))) : Run p e below F T (mkF m pc ls st) := by
  obtain ⟨⟨hx, hby, hml, hZ, hown, hnm, hret, hlk⟩, hs0, eT, locs, S, N⟩ := X
  subst hp
  exact Run.of (fun t q => XS.iloadN S.here hx rfl (hb hby hd) hl q) r
theorem r_iload (X : Here p l e R s m args below meth c Z own nm bs ml rt n0 T h k n) {i : Nat} {v : Int32} (hd : decode bs pc = .ok (.iload i, 2)) (hl : ls[i]? = some (.val (.int v))) (hp : pc + 2 = pc') (r : Run p e below F T (mkF m pc' ls (.int v :: st))) : Run p e below F T (mkF m pc ls st) := by
  obtain ⟨⟨hx, hby, hml, hZ, hown, hnm, hret, hlk⟩, hs0, eT, locs, S, N⟩ := X
  subst hp
  exact Run.of (fun t q => XS.iload S.here hx rfl (hb hby hd) hl q) r
theorem r_lloadN (X : Here p l e R s m args below meth c Z own nm bs ml rt n0 T h k n) {i : Fin 4} {v : Int64} (hd : decode bs pc = .ok (.lload_n i, 1)) (hl : ls[i.val]? = some (.val (.long v))) (hp : pc + 1 = pc') (r : Run p e below F T (mkF m pc' ls (.long v :: st))) : Run p e below F T (mkF m pc ls st) := by
  obtain ⟨⟨hx, hby, hml, hZ, hown, hnm, hret, hlk⟩, hs0, eT, locs, S, N⟩ := X
  subst hp
  exact Run.of (fun t q => XT.lloadN S.here hx rfl (hb hby hd) hl q) r
theorem r_lload (X : Here p l e R s m args below meth c Z own nm bs ml rt n0 T h k n) {i : Nat} {v : Int64} (hd : decode bs pc = .ok (.lload i, 2)) (hl : ls[i]? = some (.val (.long v))) (hp : pc + 2 = pc') (r : Run p e below F T (mkF m pc' ls (.long v :: st))) : Run p e below F T (mkF m pc ls st) := by
  obtain ⟨⟨hx, hby, hml, hZ, hown, hnm, hret, hlk⟩, hs0, eT, locs, S, N⟩ := X
  subst hp
  exact Run.of (fun t q => XT.lload S.here hx rfl (hb hby hd) hl q) r
theorem r_istoreN (X : Here p l e R s m args below meth c Z own nm bs ml rt n0 T h k n) {i : Fin 4} {v : Int32} (hd : decode bs pc = .ok (.istore_n i, 1)) (hl : storeLocals ls i.val (.int v) = some ls') (hp : pc + 1 = pc') (r : Run p e below F T (mkF m pc' ls' st)) : Run p e below F T (mkF m pc ls (.int v :: st)) := by
  obtain ⟨⟨hx, hby, hml, hZ, hown, hnm, hret, hlk⟩, hs0, eT, locs, S, N⟩ := X
  subst hp
  exact Run.of (fun t q => XS.istoreN S.here hx rfl (hb hby hd) rfl hl q) r
theorem r_istore (X : Here p l e R s m args below meth c Z own nm bs ml rt n0 T h k n) {i : Nat} {v : Int32} (hd : decode bs pc = .ok (.istore i, 2)) (hl : storeLocals ls i (.int v) = some ls') (hp : pc + 2 = pc') (r : Run p e below F T (mkF m pc' ls' st)) : Run p e below F T (mkF m pc ls (.int v :: st)) := by
  obtain ⟨⟨hx, hby, hml, hZ, hown, hnm, hret, hlk⟩, hs0, eT, locs, S, N⟩ := X
  subst hp
  exact Run.of (fun t q => XS.istore S.here hx rfl (hb hby hd) rfl hl q) r
theorem r_lstoreN (X : Here p l e R s m args below meth c Z own nm bs ml rt n0 T h k n) {i : Fin 4} {v : Int64} (hd : decode bs pc = .ok (.lstore_n i, 1)) (hl : storeLocals ls i.val (.long v) = some ls') (hp : pc + 1 = pc') (r : Run p e below F T (mkF m pc' ls' st)) : Run p e below F T (mkF m pc ls (.long v :: st)) := by
  obtain ⟨⟨hx, hby, hml, hZ, hown, hnm, hret, hlk⟩, hs0, eT, locs, S, N⟩ := X
  subst hp
  exact Run.of (fun t q => XT.lstoreN S.here hx rfl (hb hby hd) rfl hl q) r
theorem r_lstore (X : Here p l e R s m args below meth c Z own nm bs ml rt n0 T h k n) {i : Nat} {v : Int64} (hd : decode bs pc = .ok (.lstore i, 2)) (hl : storeLocals ls i (.long v) = some ls') (hp : pc + 2 = pc') (r : Run p e below F T (mkF m pc' ls' st)) : Run p e below F T (mkF m pc ls (.long v :: st)) := by
  obtain ⟨⟨hx, hby, hml, hZ, hown, hnm, hret, hlk⟩, hs0, eT, locs, S, N⟩ := X
  subst hp
  exact Run.of (fun t q => XT.lstore S.here hx rfl (hb hby hd) rfl hl q) r
theorem r_astoreN (X : Here p l e R s m args below meth c Z own nm bs ml rt n0 T h k n) {i : Fin 4} {v : Addr} (hd : decode bs pc = .ok (.astore_n i, 1)) (hl : storeLocals ls i.val (.ref v) = some ls') (hp : pc + 1 = pc') (r : Run p e below F T (mkF m pc' ls' st)) : Run p e below F T (mkF m pc ls (.ref v :: st)) := by
  obtain ⟨⟨hx, hby, hml, hZ, hown, hnm, hret, hlk⟩, hs0, eT, locs, S, N⟩ := X
  subst hp
  exact Run.of (fun t q => XS.astoreN S.here hx rfl (hb hby hd) rfl rfl hl q) r
theorem r_astore (X : Here p l e R s m args below meth c Z own nm bs ml rt n0 T h k n) {i : Nat} {v : Addr} (hd : decode bs pc = .ok (.astore i, 2)) (hl : storeLocals ls i (.ref v) = some ls') (hp : pc + 2 = pc') (r : Run p e below F T (mkF m pc' ls' st)) : Run p e below F T (mkF m pc ls (.ref v :: st)) := by
  obtain ⟨⟨hx, hby, hml, hZ, hown, hnm, hret, hlk⟩, hs0, eT, locs, S, N⟩ := X
  subst hp
  exact Run.of (fun t q => XS.astore S.here hx rfl (hb hby hd) rfl rfl hl q) r
theorem r_iconst (X : Here p l e R s m args below meth c Z own nm bs ml rt n0 T h k n) {i : Int} {v : Int32} (hd : decode bs pc = .ok (.iconst i, 1)) (hv : Int32.ofInt i = v) (hp : pc + 1 = pc') (r : Run p e below F T (mkF m pc' ls (.int v :: st))) : Run p e below F T (mkF m pc ls st) := by
  obtain ⟨⟨hx, hby, hml, hZ, hown, hnm, hret, hlk⟩, hs0, eT, locs, S, N⟩ := X
  subst hp
  exact Run.of (fun t q => XS.iconst S.here hx rfl (hb hby hd) (by rw [hv]; exact q)) r
theorem r_bipush (X : Here p l e R s m args below meth c Z own nm bs ml rt n0 T h k n) {i : Int} {v : Int32} (hd : decode bs pc = .ok (.bipush i, 2)) (hv : (Int8.ofInt i).toInt32 = v) (hp : pc + 2 = pc') (r : Run p e below F T (mkF m pc' ls (.int v :: st))) : Run p e below F T (mkF m pc ls st) := by
  obtain ⟨⟨hx, hby, hml, hZ, hown, hnm, hret, hlk⟩, hs0, eT, locs, S, N⟩ := X
  subst hp
  exact Run.of (fun t q => XS.bipush S.here hx rfl (hb hby hd) (by rw [hv]; exact q)) r
theorem r_sipush (X : Here p l e R s m args below meth c Z own nm bs ml rt n0 T h k n) {i : Int} {v : Int32} (hd : decode bs pc = .ok (.sipush i, 3)) (hv : (Int16.ofInt i).toInt32 = v) (hp : pc + 3 = pc') (r : Run p e below F T (mkF m pc' ls (.int v :: st))) : Run p e below F T (mkF m pc ls st) := by
  obtain ⟨⟨hx, hby, hml, hZ, hown, hnm, hret, hlk⟩, hs0, eT, locs, S, N⟩ := X
  subst hp
  exact Run.of (fun t q => XS.sipush S.here hx rfl (hb hby hd) (by rw [hv]; exact q)) r
theorem r_lconst (X : Here p l e R s m args below meth c Z own nm bs ml rt n0 T h k n) {i : Fin 2} {v : Int64} (hd : decode bs pc = .ok (.lconst i, 1)) (hv : Int64.ofNat i = v) (hp : pc + 1 = pc') (r : Run p e below F T (mkF m pc' ls (.long v :: st))) : Run p e below F T (mkF m pc ls st) := by
  obtain ⟨⟨hx, hby, hml, hZ, hown, hnm, hret, hlk⟩, hs0, eT, locs, S, N⟩ := X
  subst hp
  exact Run.of (fun t q => XT.lconst S.here hx rfl (hb hby hd) (by rw [hv]; exact q)) r
theorem r_ldcI (X : Here p l e R s m args below meth c Z own nm bs ml rt n0 T h k n) {i : Nat} {v : Int32} (hd : decode bs pc = .ok (.ldc i, 2)) (w : (Jvm.Cond.constant own i v).before a0 Z = true) (hp : pc + 2 = pc') (r : Run p e below F T (mkF m pc' ls (.int v :: st))) : Run p e below F T (mkF m pc ls st) := by
  obtain ⟨⟨hx, hby, hml, hZ, hown, hnm, hret, hlk⟩, hs0, eT, locs, S, N⟩ := X
  subst hp
  exact Run.of (fun t q => S.ldcI hx hown (mvT hZ w) rfl (hb hby hd) q) r
theorem r_ldc2J (X : Here p l e R s m args below meth c Z own nm bs ml rt n0 T h k n) {i : Nat} {v : Int64} (hd : decode bs pc = .ok (.ldc2_w i, 3)) (w : (Jvm.Cond.constantLong own i v).before a0 Z = true) (hp : pc + 3 = pc') (r : Run p e below F T (mkF m pc' ls (.long v :: st))) : Run p e below F T (mkF m pc ls st) := by
  obtain ⟨⟨hx, hby, hml, hZ, hown, hnm, hret, hlk⟩, hs0, eT, locs, S, N⟩ := X
  subst hp
  exact Run.of (fun t q => S.ldc2J hx hown (mvT hZ w) rfl (hb hby hd) q) r
theorem r_iadd (X : Here p l e R s m args below meth c Z own nm bs ml rt n0 T h k n) {x y z : Int32} (hd : decode bs pc = .ok (.iadd, 1)) (hv : x + y = z) (hp : pc + 1 = pc') (r : Run p e below F T (mkF m pc' ls (.int z :: st))) : Run p e below F T (mkF m pc ls (.int y :: .int x :: st)) := by
  obtain ⟨⟨hx, hby, hml, hZ, hown, hnm, hret, hlk⟩, hs0, eT, locs, S, N⟩ := X
  subst hp
  exact Run.of (fun t q => XS.iadd S.here hx rfl (hb hby hd) rfl (by rw [hv]; exact q)) r
theorem r_isub (X : Here p l e R s m args below meth c Z own nm bs ml rt n0 T h k n) {x y z : Int32} (hd : decode bs pc = .ok (.isub, 1)) (hv : x - y = z) (hp : pc + 1 = pc') (r : Run p e below F T (mkF m pc' ls (.int z :: st))) : Run p e below F T (mkF m pc ls (.int y :: .int x :: st)) := by
  obtain ⟨⟨hx, hby, hml, hZ, hown, hnm, hret, hlk⟩, hs0, eT, locs, S, N⟩ := X
  subst hp
  exact Run.of (fun t q => XS.isub S.here hx rfl (hb hby hd) rfl (by rw [hv]; exact q)) r
theorem r_imul (X : Here p l e R s m args below meth c Z own nm bs ml rt n0 T h k n) {x y z : Int32} (hd : decode bs pc = .ok (.imul, 1)) (hv : x * y = z) (hp : pc + 1 = pc') (r : Run p e below F T (mkF m pc' ls (.int z :: st))) : Run p e below F T (mkF m pc ls (.int y :: .int x :: st)) := by
  obtain ⟨⟨hx, hby, hml, hZ, hown, hnm, hret, hlk⟩, hs0, eT, locs, S, N⟩ := X
  subst hp
  exact Run.of (fun t q => XS.imul S.here hx rfl (hb hby hd) rfl (by rw [hv]; exact q)) r
theorem r_iand (X : Here p l e R s m args below meth c Z own nm bs ml rt n0 T h k n) {x y z : Int32} (hd : decode bs pc = .ok (.iand, 1)) (hv : x &&& y = z) (hp : pc + 1 = pc') (r : Run p e below F T (mkF m pc' ls (.int z :: st))) : Run p e below F T (mkF m pc ls (.int y :: .int x :: st)) := by
  obtain ⟨⟨hx, hby, hml, hZ, hown, hnm, hret, hlk⟩, hs0, eT, locs, S, N⟩ := X
  subst hp
  exact Run.of (fun t q => XS.iand S.here hx rfl (hb hby hd) rfl (by rw [hv]; exact q)) r
theorem r_ior (X : Here p l e R s m args below meth c Z own nm bs ml rt n0 T h k n) {x y z : Int32} (hd : decode bs pc = .ok (.ior, 1)) (hv : x ||| y = z) (hp : pc + 1 = pc') (r : Run p e below F T (mkF m pc' ls (.int z :: st))) : Run p e below F T (mkF m pc ls (.int y :: .int x :: st)) := by
  obtain ⟨⟨hx, hby, hml, hZ, hown, hnm, hret, hlk⟩, hs0, eT, locs, S, N⟩ := X
  subst hp
  exact Run.of (fun t q => XT.ior S.here hx rfl (hb hby hd) rfl (by rw [hv]; exact q)) r
theorem r_ixor (X : Here p l e R s m args below meth c Z own nm bs ml rt n0 T h k n) {x y z : Int32} (hd : decode bs pc = .ok (.ixor, 1)) (hv : x ^^^ y = z) (hp : pc + 1 = pc') (r : Run p e below F T (mkF m pc' ls (.int z :: st))) : Run p e below F T (mkF m pc ls (.int y :: .int x :: st)) := by
  obtain ⟨⟨hx, hby, hml, hZ, hown, hnm, hret, hlk⟩, hs0, eT, locs, S, N⟩ := X
  subst hp
  exact Run.of (fun t q => XT.ixor S.here hx rfl (hb hby hd) rfl (by rw [hv]; exact q)) r
theorem r_ishl (X : Here p l e R s m args below meth c Z own nm bs ml rt n0 T h k n) {x y z : Int32} (hd : decode bs pc = .ok (.ishl, 1)) (hv : x <<< (y &&& 31) = z) (hp : pc + 1 = pc') (r : Run p e below F T (mkF m pc' ls (.int z :: st))) : Run p e below F T (mkF m pc ls (.int y :: .int x :: st)) := by
  obtain ⟨⟨hx, hby, hml, hZ, hown, hnm, hret, hlk⟩, hs0, eT, locs, S, N⟩ := X
  subst hp
  exact Run.of (fun t q => XT.ishl S.here hx rfl (hb hby hd) rfl (by rw [hv]; exact q)) r
theorem r_ishr (X : Here p l e R s m args below meth c Z own nm bs ml rt n0 T h k n) {x y z : Int32} (hd : decode bs pc = .ok (.ishr, 1)) (hv : x >>> (y &&& 31) = z) (hp : pc + 1 = pc') (r : Run p e below F T (mkF m pc' ls (.int z :: st))) : Run p e below F T (mkF m pc ls (.int y :: .int x :: st)) := by
  obtain ⟨⟨hx, hby, hml, hZ, hown, hnm, hret, hlk⟩, hs0, eT, locs, S, N⟩ := X
  subst hp
  exact Run.of (fun t q => XT.ishr S.here hx rfl (hb hby hd) rfl (by rw [hv]; exact q)) r
theorem r_iushr (X : Here p l e R s m args below meth c Z own nm bs ml rt n0 T h k n) {x y z : Int32} (hd : decode bs pc = .ok (.iushr, 1)) (hv : XT.ushr x y = z) (hp : pc + 1 = pc') (r : Run p e below F T (mkF m pc' ls (.int z :: st))) : Run p e below F T (mkF m pc ls (.int y :: .int x :: st)) := by
  obtain ⟨⟨hx, hby, hml, hZ, hown, hnm, hret, hlk⟩, hs0, eT, locs, S, N⟩ := X
  subst hp
  exact Run.of (fun t q => XT.iushr S.here hx rfl (hb hby hd) rfl (by rw [hv]; exact q)) r
theorem r_irem (X : Here p l e R s m args below meth c Z own nm bs ml rt n0 T h k n) {x y z : Int32} (hd : decode bs pc = .ok (.irem, 1)) (hy : y ≠ 0) (hv : x % y = z) (hp : pc + 1 = pc') (r : Run p e below F T (mkF m pc' ls (.int z :: st))) : Run p e below F T (mkF m pc ls (.int y :: .int x :: st)) := by
  obtain ⟨⟨hx, hby, hml, hZ, hown, hnm, hret, hlk⟩, hs0, eT, locs, S, N⟩ := X
  subst hp
  exact Run.of (fun t q => iremM S hx rfl (hb hby hd) rfl hy (by rw [hv]; exact q)) r
theorem r_idiv (X : Here p l e R s m args below meth c Z own nm bs ml rt n0 T h k n) {x y z : Int32} (hd : decode bs pc = .ok (.idiv, 1)) (hy : y ≠ 0) (hv : x / y = z) (hp : pc + 1 = pc') (r : Run p e below F T (mkF m pc' ls (.int z :: st))) : Run p e below F T (mkF m pc ls (.int y :: .int x :: st)) := by
  obtain ⟨⟨hx, hby, hml, hZ, hown, hnm, hret, hlk⟩, hs0, eT, locs, S, N⟩ := X
  subst hp
  exact Run.of (fun t q => XS.idiv S.here hx rfl (hb hby hd) rfl hy (by rw [hv]; exact q)) r
theorem r_ladd (X : Here p l e R s m args below meth c Z own nm bs ml rt n0 T h k n) {x y z : Int64} (hd : decode bs pc = .ok (.ladd, 1)) (hv : x + y = z) (hp : pc + 1 = pc') (r : Run p e below F T (mkF m pc' ls (.long z :: st))) : Run p e below F T (mkF m pc ls (.long y :: .long x :: st)) := by
  obtain ⟨⟨hx, hby, hml, hZ, hown, hnm, hret, hlk⟩, hs0, eT, locs, S, N⟩ := X
  subst hp
  exact Run.of (fun t q => XT.ladd S.here hx rfl (hb hby hd) rfl (by rw [hv]; exact q)) r
theorem r_lsub (X : Here p l e R s m args below meth c Z own nm bs ml rt n0 T h k n) {x y z : Int64} (hd : decode bs pc = .ok (.lsub, 1)) (hv : x - y = z) (hp : pc + 1 = pc') (r : Run p e below F T (mkF m pc' ls (.long z :: st))) : Run p e below F T (mkF m pc ls (.long y :: .long x :: st)) := by
  obtain ⟨⟨hx, hby, hml, hZ, hown, hnm, hret, hlk⟩, hs0, eT, locs, S, N⟩ := X
  subst hp
  exact Run.of (fun t q => XT.lsub S.here hx rfl (hb hby hd) rfl (by rw [hv]; exact q)) r
theorem r_lmul (X : Here p l e R s m args below meth c Z own nm bs ml rt n0 T h k n) {x y z : Int64} (hd : decode bs pc = .ok (.lmul, 1)) (hv : x * y = z) (hp : pc + 1 = pc') (r : Run p e below F T (mkF m pc' ls (.long z :: st))) : Run p e below F T (mkF m pc ls (.long y :: .long x :: st)) := by
  obtain ⟨⟨hx, hby, hml, hZ, hown, hnm, hret, hlk⟩, hs0, eT, locs, S, N⟩ := X
  subst hp
  exact Run.of (fun t q => XT.lmul S.here hx rfl (hb hby hd) rfl (by rw [hv]; exact q)) r
theorem r_land (X : Here p l e R s m args below meth c Z own nm bs ml rt n0 T h k n) {x y z : Int64} (hd : decode bs pc = .ok (.land, 1)) (hv : x &&& y = z) (hp : pc + 1 = pc') (r : Run p e below F T (mkF m pc' ls (.long z :: st))) : Run p e below F T (mkF m pc ls (.long y :: .long x :: st)) := by
  obtain ⟨⟨hx, hby, hml, hZ, hown, hnm, hret, hlk⟩, hs0, eT, locs, S, N⟩ := X
  subst hp
  exact Run.of (fun t q => XT.land S.here hx rfl (hb hby hd) rfl (by rw [hv]; exact q)) r
theorem r_lor (X : Here p l e R s m args below meth c Z own nm bs ml rt n0 T h k n) {x y z : Int64} (hd : decode bs pc = .ok (.lor, 1)) (hv : x ||| y = z) (hp : pc + 1 = pc') (r : Run p e below F T (mkF m pc' ls (.long z :: st))) : Run p e below F T (mkF m pc ls (.long y :: .long x :: st)) := by
  obtain ⟨⟨hx, hby, hml, hZ, hown, hnm, hret, hlk⟩, hs0, eT, locs, S, N⟩ := X
  subst hp
  exact Run.of (fun t q => XT.lor S.here hx rfl (hb hby hd) rfl (by rw [hv]; exact q)) r
theorem r_lxor (X : Here p l e R s m args below meth c Z own nm bs ml rt n0 T h k n) {x y z : Int64} (hd : decode bs pc = .ok (.lxor, 1)) (hv : x ^^^ y = z) (hp : pc + 1 = pc') (r : Run p e below F T (mkF m pc' ls (.long z :: st))) : Run p e below F T (mkF m pc ls (.long y :: .long x :: st)) := by
  obtain ⟨⟨hx, hby, hml, hZ, hown, hnm, hret, hlk⟩, hs0, eT, locs, S, N⟩ := X
  subst hp
  exact Run.of (fun t q => XT.lxor S.here hx rfl (hb hby hd) rfl (by rw [hv]; exact q)) r
theorem r_ldiv (X : Here p l e R s m args below meth c Z own nm bs ml rt n0 T h k n) {x y z : Int64} (hd : decode bs pc = .ok (.ldiv, 1)) (hy : y ≠ 0) (hv : x / y = z) (hp : pc + 1 = pc') (r : Run p e below F T (mkF m pc' ls (.long z :: st))) : Run p e below F T (mkF m pc ls (.long y :: .long x :: st)) := by
  obtain ⟨⟨hx, hby, hml, hZ, hown, hnm, hret, hlk⟩, hs0, eT, locs, S, N⟩ := X
  subst hp
  exact Run.of (fun t q => XT.ldiv S.here hx rfl (hb hby hd) rfl hy (by rw [hv]; exact q)) r
theorem r_lrem (X : Here p l e R s m args below meth c Z own nm bs ml rt n0 T h k n) {x y z : Int64} (hd : decode bs pc = .ok (.lrem, 1)) (hy : y ≠ 0) (hv : x - (x / y) * y = z) (hp : pc + 1 = pc') (r : Run p e below F T (mkF m pc' ls (.long z :: st))) : Run p e below F T (mkF m pc ls (.long y :: .long x :: st)) := by
  obtain ⟨⟨hx, hby, hml, hZ, hown, hnm, hret, hlk⟩, hs0, eT, locs, S, N⟩ := X
  subst hp
  exact Run.of (fun t q => XT.lrem S.here hx rfl (hb hby hd) rfl hy (by rw [hv]; exact q)) r
theorem r_lshl (X : Here p l e R s m args below meth c Z own nm bs ml rt n0 T h k n) {x z : Int64} {y : Int32} (hd : decode bs pc = .ok (.lshl, 1)) (hv : x <<< (y.toInt64 &&& 63) = z) (hp : pc + 1 = pc') (r : Run p e below F T (mkF m pc' ls (.long z :: st))) : Run p e below F T (mkF m pc ls (.int y :: .long x :: st)) := by
  obtain ⟨⟨hx, hby, hml, hZ, hown, hnm, hret, hlk⟩, hs0, eT, locs, S, N⟩ := X
  subst hp
  exact Run.of (fun t q => XT.lshl S.here hx rfl (hb hby hd) rfl (by rw [hv]; exact q)) r
theorem r_lshr (X : Here p l e R s m args below meth c Z own nm bs ml rt n0 T h k n) {x z : Int64} {y : Int32} (hd : decode bs pc = .ok (.lshr, 1)) (hv : x >>> (y.toInt64 &&& 63) = z) (hp : pc + 1 = pc') (r : Run p e below F T (mkF m pc' ls (.long z :: st))) : Run p e below F T (mkF m pc ls (.int y :: .long x :: st)) := by
  obtain ⟨⟨hx, hby, hml, hZ, hown, hnm, hret, hlk⟩, hs0, eT, locs, S, N⟩ := X
  subst hp
  exact Run.of (fun t q => XT.lshr S.here hx rfl (hb hby hd) rfl (by rw [hv]; exact q)) r
theorem r_lushr (X : Here p l e R s m args below meth c Z own nm bs ml rt n0 T h k n) {x z : Int64} {y : Int32} (hd : decode bs pc = .ok (.lushr, 1)) (hv : XT.ushrL x y = z) (hp : pc + 1 = pc') (r : Run p e below F T (mkF m pc' ls (.long z :: st))) : Run p e below F T (mkF m pc ls (.int y :: .long x :: st)) := by
  obtain ⟨⟨hx, hby, hml, hZ, hown, hnm, hret, hlk⟩, hs0, eT, locs, S, N⟩ := X
  subst hp
  exact Run.of (fun t q => XT.lushr S.here hx rfl (hb hby hd) rfl (by rw [hv]; exact q)) r
theorem r_i2b (X : Here p l e R s m args below meth c Z own nm bs ml rt n0 T h k n) {x z : Int32} (hd : decode bs pc = .ok (.i2b, 1)) (hv : x.toInt8.toInt32 = z) (hp : pc + 1 = pc') (r : Run p e below F T (mkF m pc' ls (.int z :: st))) : Run p e below F T (mkF m pc ls (.int x :: st)) := by
  obtain ⟨⟨hx, hby, hml, hZ, hown, hnm, hret, hlk⟩, hs0, eT, locs, S, N⟩ := X
  subst hp
  exact Run.of (fun t q => XT.i2b S.here hx rfl (hb hby hd) rfl (by rw [hv]; exact q)) r
theorem r_i2c (X : Here p l e R s m args below meth c Z own nm bs ml rt n0 T h k n) {x z : Int32} (hd : decode bs pc = .ok (.i2c, 1)) (hv : x.toUInt32.toUInt16.toUInt32.toInt32 = z) (hp : pc + 1 = pc') (r : Run p e below F T (mkF m pc' ls (.int z :: st))) : Run p e below F T (mkF m pc ls (.int x :: st)) := by
  obtain ⟨⟨hx, hby, hml, hZ, hown, hnm, hret, hlk⟩, hs0, eT, locs, S, N⟩ := X
  subst hp
  exact Run.of (fun t q => XT.i2c S.here hx rfl (hb hby hd) rfl (by rw [hv]; exact q)) r
theorem r_i2s (X : Here p l e R s m args below meth c Z own nm bs ml rt n0 T h k n) {x z : Int32} (hd : decode bs pc = .ok (.i2s, 1)) (hv : x.toInt16.toInt32 = z) (hp : pc + 1 = pc') (r : Run p e below F T (mkF m pc' ls (.int z :: st))) : Run p e below F T (mkF m pc ls (.int x :: st)) := by
  obtain ⟨⟨hx, hby, hml, hZ, hown, hnm, hret, hlk⟩, hs0, eT, locs, S, N⟩ := X
  subst hp
  exact Run.of (fun t q => XT.i2s S.here hx rfl (hb hby hd) rfl (by rw [hv]; exact q)) r
theorem r_i2l (X : Here p l e R s m args below meth c Z own nm bs ml rt n0 T h k n) {x : Int32} {z : Int64} (hd : decode bs pc = .ok (.i2l, 1)) (hv : x.toInt64 = z) (hp : pc + 1 = pc') (r : Run p e below F T (mkF m pc' ls (.long z :: st))) : Run p e below F T (mkF m pc ls (.int x :: st)) := by
  obtain ⟨⟨hx, hby, hml, hZ, hown, hnm, hret, hlk⟩, hs0, eT, locs, S, N⟩ := X
  subst hp
  exact Run.of (fun t q => XT.i2l S.here hx rfl (hb hby hd) rfl (by rw [hv]; exact q)) r
theorem r_l2i (X : Here p l e R s m args below meth c Z own nm bs ml rt n0 T h k n) {x : Int64} {z : Int32} (hd : decode bs pc = .ok (.l2i, 1)) (hv : x.toInt32 = z) (hp : pc + 1 = pc') (r : Run p e below F T (mkF m pc' ls (.int z :: st))) : Run p e below F T (mkF m pc ls (.long x :: st)) := by
  obtain ⟨⟨hx, hby, hml, hZ, hown, hnm, hret, hlk⟩, hs0, eT, locs, S, N⟩ := X
  subst hp
  exact Run.of (fun t q => XT.l2i S.here hx rfl (hb hby hd) rfl (by rw [hv]; exact q)) r
theorem r_lcmp (X : Here p l e R s m args below meth c Z own nm bs ml rt n0 T h k n) {x y : Int64} {z : Int32} (hd : decode bs pc = .ok (.lcmp, 1)) (hv : XT.cmpL x y = z) (hp : pc + 1 = pc') (r : Run p e below F T (mkF m pc' ls (.int z :: st))) : Run p e below F T (mkF m pc ls (.long y :: .long x :: st)) := by
  obtain ⟨⟨hx, hby, hml, hZ, hown, hnm, hret, hlk⟩, hs0, eT, locs, S, N⟩ := X
  subst hp
  exact Run.of (fun t q => XT.lcmp S.here hx rfl (hb hby hd) rfl (by rw [hv]; exact q)) r
theorem r_dup (X : Here p l e R s m args below meth c Z own nm bs ml rt n0 T h k n) {x : Value} (hd : decode bs pc = .ok (.dup, 1)) (hc : x.category = 1) (hp : pc + 1 = pc') (r : Run p e below F T (mkF m pc' ls (x :: x :: st))) : Run p e below F T (mkF m pc ls (x :: st)) := by
  obtain ⟨⟨hx, hby, hml, hZ, hown, hnm, hret, hlk⟩, hs0, eT, locs, S, N⟩ := X
  subst hp
  exact Run.of (fun t q => XS.dup S.here hx rfl (hb hby hd) rfl hc q) r
theorem r_dupX1 (X : Here p l e R s m args below meth c Z own nm bs ml rt n0 T h k n) {x y : Value} (hd : decode bs pc = .ok (.dup_x1, 1)) (hc : x.category = 1) (hc' : y.category = 1) (hp : pc + 1 = pc') (r : Run p e below F T (mkF m pc' ls (x :: y :: x :: st))) : Run p e below F T (mkF m pc ls (x :: y :: st)) := by
  obtain ⟨⟨hx, hby, hml, hZ, hown, hnm, hret, hlk⟩, hs0, eT, locs, S, N⟩ := X
  subst hp
  exact Run.of (fun t q => XT.dupX1 S.here hx rfl (hb hby hd) rfl hc hc' q) r
theorem r_pop (X : Here p l e R s m args below meth c Z own nm bs ml rt n0 T h k n) {x : Value} (hd : decode bs pc = .ok (.pop, 1)) (hc : x.category = 1) (hp : pc + 1 = pc') (r : Run p e below F T (mkF m pc' ls st)) : Run p e below F T (mkF m pc ls (x :: st)) := by
  obtain ⟨⟨hx, hby, hml, hZ, hown, hnm, hret, hlk⟩, hs0, eT, locs, S, N⟩ := X
  subst hp
  exact Run.of (fun t q => XT.pop S.here hx rfl (hb hby hd) rfl hc q) r
theorem r_iinc (X : Here p l e R s m args below meth c Z own nm bs ml rt n0 T h k n) {i : Nat} {d : Int} {x z : Int32} (hd : decode bs pc = .ok (.iinc i d, 3)) (hl : ls[i]? = some (.val (.int x))) (hv : x + Int32.ofInt d = z) (hl' : storeLocals ls i (.int z) = some ls') (hp : pc + 3 = pc') (r : Run p e below F T (mkF m pc' ls' st)) : Run p e below F T (mkF m pc ls st) := by
  obtain ⟨⟨hx, hby, hml, hZ, hown, hnm, hret, hlk⟩, hs0, eT, locs, S, N⟩ := X
  subst hp
  exact Run.of (fun t q => XS.iinc S.here hx rfl (hb hby hd) hl (by rw [hv]; exact hl') q) r
theorem r_goto (X : Here p l e R s m args below meth c Z own nm bs ml rt n0 T h k n) {o : Int} (hd : decode bs pc = .ok (.goto o, 3)) (ho : 0 ≤ (pc : Int) + o) (hp : ((pc : Int) + o).toNat = pc') (r : Run p e below F T (mkF m pc' ls st)) : Run p e below F T (mkF m pc ls st) := by
  obtain ⟨⟨hx, hby, hml, hZ, hown, hnm, hret, hlk⟩, hs0, eT, locs, S, N⟩ := X
  exact Run.of (fun t q => XS.goto S.here hx rfl rfl (hb hby hd) ho hp q) r
theorem r_icmp (X : Here p l e R s m args below meth c Z own nm bs ml rt n0 T h k n) {cd : ClassFile.Cond} {o : Int} (hd : decode bs pc = .ok (.if_icmp cd o, 3)) (ho : 0 ≤ (pc : Int) + o) (hp : ((pc : Int) + o).toNat = pc') (hp2 : pc + 3 = pc2) {x y : Int32} {a b : Int} (ha : x.toInt = a) (hb' : y.toInt = b) (yes : cnd cd a b → Run p e below F T (mkF m pc' ls st)) (no : ¬ cnd cd a b → Run p e below F T (mkF m pc2 ls st)) : Run p e below F T (mkF m pc ls (.int y :: .int x :: st)) := by
  obtain ⟨⟨hx, hby, hml, hZ, hown, hnm, hret, hlk⟩, hs0, eT, locs, S, N⟩ := X
  subst ha hb' hp2
  by_cases w : cnd cd x.toInt (y : Int32).toInt
  · exact Run.of (fun t q => XS.icmpYes S.here hx rfl rfl (hb hby hd) rfl (((cnd_iff cd x y).mpr w)) ho hp q) (yes w)
  · exact Run.of (fun t q => XS.icmpNo S.here hx rfl (hb hby hd) rfl ((Bool.eq_false_iff.mpr fun z => w ((cnd_iff cd x y).mp z))) q) (no w)
theorem r_icmpY (X : Here p l e R s m args below meth c Z own nm bs ml rt n0 T h k n) {cd : ClassFile.Cond} {o : Int} (hd : decode bs pc = .ok (.if_icmp cd o, 3)) (ho : 0 ≤ (pc : Int) + o) (hp : ((pc : Int) + o).toNat = pc') {x y : Int32} {a b : Int} (ha : x.toInt = a) (hb' : y.toInt = b) (w : cnd cd a b) (r : Run p e below F T (mkF m pc' ls st)) : Run p e below F T (mkF m pc ls (.int y :: .int x :: st)) :=
  r_icmp X hd ho hp rfl ha hb' (fun _ => r) (fun z => absurd w z)
theorem r_icmpN (X : Here p l e R s m args below meth c Z own nm bs ml rt n0 T h k n) {cd : ClassFile.Cond} {o : Int} (hd : decode bs pc = .ok (.if_icmp cd o, 3)) (ho : 0 ≤ (pc : Int) + o) (hp2 : pc + 3 = pc2) {x y : Int32} {a b : Int} (ha : x.toInt = a) (hb' : y.toInt = b) (w : ¬ cnd cd a b) (r : Run p e below F T (mkF m pc2 ls st)) : Run p e below F T (mkF m pc ls (.int y :: .int x :: st)) :=
  r_icmp X hd ho rfl hp2 ha hb' (fun z => absurd z w) (fun _ => r)
theorem r_if (X : Here p l e R s m args below meth c Z own nm bs ml rt n0 T h k n) {cd : ClassFile.Cond} {o : Int} (hd : decode bs pc = .ok (.ifCond cd o, 3)) (ho : 0 ≤ (pc : Int) + o) (hp : ((pc : Int) + o).toNat = pc') (hp2 : pc + 3 = pc2) {x : Int32} {a b : Int} (ha : x.toInt = a) (hb' : (0 : Int32).toInt = b) (yes : cnd cd a b → Run p e below F T (mkF m pc' ls st)) (no : ¬ cnd cd a b → Run p e below F T (mkF m pc2 ls st)) : Run p e below F T (mkF m pc ls (.int x :: st)) := by
  obtain ⟨⟨hx, hby, hml, hZ, hown, hnm, hret, hlk⟩, hs0, eT, locs, S, N⟩ := X
  subst ha hb' hp2
  by_cases w : cnd cd x.toInt (0 : Int32).toInt
  · exact Run.of (fun t q => XS.ifYes S.here hx rfl rfl (hb hby hd) rfl ((if0 _ _).trans ((cnd_iff cd x 0).mpr w)) ho hp q) (yes w)
  · exact Run.of (fun t q => XS.ifNo S.here hx rfl (hb hby hd) rfl ((if0 _ _).trans (Bool.eq_false_iff.mpr fun z => w ((cnd_iff cd x 0).mp z))) q) (no w)
theorem r_ifY (X : Here p l e R s m args below meth c Z own nm bs ml rt n0 T h k n) {cd : ClassFile.Cond} {o : Int} (hd : decode bs pc = .ok (.ifCond cd o, 3)) (ho : 0 ≤ (pc : Int) + o) (hp : ((pc : Int) + o).toNat = pc') {x : Int32} {a b : Int} (ha : x.toInt = a) (hb' : (0 : Int32).toInt = b) (w : cnd cd a b) (r : Run p e below F T (mkF m pc' ls st)) : Run p e below F T (mkF m pc ls (.int x :: st)) :=
  r_if X hd ho hp rfl ha hb' (fun _ => r) (fun z => absurd w z)
theorem r_ifN (X : Here p l e R s m args below meth c Z own nm bs ml rt n0 T h k n) {cd : ClassFile.Cond} {o : Int} (hd : decode bs pc = .ok (.ifCond cd o, 3)) (ho : 0 ≤ (pc : Int) + o) (hp2 : pc + 3 = pc2) {x : Int32} {a b : Int} (ha : x.toInt = a) (hb' : (0 : Int32).toInt = b) (w : ¬ cnd cd a b) (r : Run p e below F T (mkF m pc2 ls st)) : Run p e below F T (mkF m pc ls (.int x :: st)) :=
  r_if X hd ho rfl hp2 ha hb' (fun z => absurd z w) (fun _ => r)
theorem r_acmpN (X : Here p l e R s m args below meth c Z own nm bs ml rt n0 T h k n) {cd : ACond} {o : Int} {x y : Addr} (hd : decode bs pc = .ok (.if_acmp cd o, 3)) (hc : XT.acmp cd (.ref x) (.ref y) = false) (hp : pc + 3 = pc') (r : Run p e below F T (mkF m pc' ls st)) : Run p e below F T (mkF m pc ls (.ref y :: .ref x :: st)) := by
  obtain ⟨⟨hx, hby, hml, hZ, hown, hnm, hret, hlk⟩, hs0, eT, locs, S, N⟩ := X
  subst hp
  exact Run.of (fun t q => XT.acmpNo S.here hx rfl (hb hby hd) rfl rfl rfl hc q) r
theorem r_retN {ft : FieldType} (X : Here p l e R s m args below meth c Z own nm bs ml (some ft) n0 T h k n) (ht : ft = .boolean ∨ ft = .byte ∨ ft = .char ∨ ft = .short) (hd : decode bs pc = .ok (.ireturn, 1)) {z w : Int32} (hz : nar ft z = w) (hQ : Q (some (.int w)) h) (hk : k ≤ kc) (hn : n ≤ ks) : Run p e below (Fnl s n0 kc ks Q) T (mkF m pc ls (.int z :: st)) := by
  obtain ⟨⟨hx, hby, hml, hZ, hown, hnm, hret, hlk⟩, hs0, eT, locs, S, N⟩ := X
  subst hz
  obtain ⟨fs, hr, hrun, hended, hW, hsame⟩ := S.leave (v := some (.int (nar ft z))) (fun w => by rw [hret] at w; cases w)
  refine ⟨_, _, ?_, hrun, hended, _, _, rfl, ⟨?_, ?_, N⟩, ⟨_, rfl⟩, hW, hsame.mono hk hn⟩
  · exact retN S hx hret ht (hb hby hd) hr
  · show Q _ T.heap
    rw [eT]; exact hQ
  · show n0 ≤ T.heap.size
    rw [eT]; exact hs0
theorem r_retI (X : Here p l e R s m args below meth c Z own nm bs ml (some .int) n0 T h k n) (hd : decode bs pc = .ok (.ireturn, 1)) {z : Int32} (hQ : Q (some (.int z)) h) (hk : k ≤ kc) (hn : n ≤ ks) : Run p e below (Fnl s n0 kc ks Q) T (mkF m pc ls (.int z :: st)) := by
  obtain ⟨⟨hx, hby, hml, hZ, hown, hnm, hret, hlk⟩, hs0, eT, locs, S, N⟩ := X
  obtain ⟨fs, hr, hrun, hended, hW, hsame⟩ := S.leave (v := some (.int z)) (fun w => by rw [hret] at w; cases w)
  refine ⟨_, _, ?_, hrun, hended, _, _, rfl, ⟨?_, ?_, N⟩, ⟨_, rfl⟩, hW, hsame.mono hk hn⟩
  · exact retOut S hx hret rfl (Or.inl ⟨rfl, Or.inl rfl, _, rfl⟩) (hb hby hd) hr
  · show Q _ T.heap
    rw [eT]; exact hQ
  · show n0 ≤ T.heap.size
    rw [eT]; exact hs0
theorem r_retL (X : Here p l e R s m args below meth c Z own nm bs ml (some .long) n0 T h k n) (hd : decode bs pc = .ok (.lreturn, 1)) {z : Int64} (hQ : Q (some (.long z)) h) (hk : k ≤ kc) (hn : n ≤ ks) : Run p e below (Fnl s n0 kc ks Q) T (mkF m pc ls (.long z :: st)) := by
  obtain ⟨⟨hx, hby, hml, hZ, hown, hnm, hret, hlk⟩, hs0, eT, locs, S, N⟩ := X
  obtain ⟨fs, hr, hrun, hended, hW, hsame⟩ := S.leave (v := some (.long z)) (fun w => by rw [hret] at w; cases w)
  refine ⟨_, _, ?_, hrun, hended, _, _, rfl, ⟨?_, ?_, N⟩, ⟨_, rfl⟩, hW, hsame.mono hk hn⟩
  · exact retOut S hx hret rfl (Or.inr (Or.inl ⟨rfl, rfl, _, rfl⟩)) (hb hby hd) hr
  · show Q _ T.heap
    rw [eT]; exact hQ
  · show n0 ≤ T.heap.size
    rw [eT]; exact hs0
theorem r_retA {ft : FieldType} (X : Here p l e R s m args below meth c Z own nm bs ml (some ft) n0 T h k n) (ht : ft.isReference = true) (hd : decode bs pc = .ok (.areturn, 1)) {a : Addr} (hQ : Q (some (.ref a)) h) (hk : k ≤ kc) (hn : n ≤ ks) : Run p e below (Fnl s n0 kc ks Q) T (mkF m pc ls (.ref a :: st)) := by
  obtain ⟨⟨hx, hby, hml, hZ, hown, hnm, hret, hlk⟩, hs0, eT, locs, S, N⟩ := X
  obtain ⟨fs, hr, hrun, hended, hW, hsame⟩ := S.leave (v := some (.ref a)) (fun w => by rw [hret] at w; cases w)
  refine ⟨_, _, ?_, hrun, hended, _, _, rfl, ⟨?_, ?_, N⟩, ⟨_, rfl⟩, hW, hsame.mono hk hn⟩
  · exact retOut S hx hret (by cases ft <;> first | rfl | (exfalso; revert ht; decide)) (Or.inr (Or.inr (Or.inr (Or.inr ⟨rfl, ht, rfl⟩)))) (hb hby hd) hr
  · show Q _ T.heap
    rw [eT]; exact hQ
  · show n0 ≤ T.heap.size
    rw [eT]; exact hs0
theorem r_ret (X : Here p l e R s m args below meth c Z own nm bs ml none n0 T h k n) (hd : decode bs pc = .ok (.return_, 1)) (hQ : Q none h) (hk : k ≤ kc) (hn : n ≤ ks) : Run p e below (Fnl s n0 kc ks Q) T (mkF m pc ls []) := by
  obtain ⟨⟨hx, hby, hml, hZ, hown, hnm, hret, hlk⟩, hs0, eT, locs, S, N⟩ := X
  obtain ⟨fs, hr, hrun, hended, hW, hsame⟩ := S.leave (v := none) (fun _ => rfl)
  refine ⟨_, _, ?_, hrun, hended, _, _, rfl, ⟨?_, ?_, N⟩, ⟨_, rfl⟩, hW, hsame.mono hk hn⟩
  · exact S.returnOut hx hret (hb hby hd) hr
  · show Q _ T.heap
    rw [eT]; exact hQ
  · show n0 ≤ T.heap.size
    rw [eT]; exact hs0
/-- the array at a has N components of kind ty; the j-th holds the int f j -/
def Arf (Z : State) (h : Heap) (a : Addr) (ty : FieldType) (N : Nat) (f : Nat → Int32) : Prop := ∃ cl : Cell, Arr Z h a cl ty ∧ cl.slots.size = N ∧ ∀ j, j < N → cl.slots[j]? = some (.int (f j))
def upd (f : Nat → Int32) (i : Nat) (v : Int32) : Nat → Int32 := fun j => if j = i then v else f j
theorem upd_same (f : Nat → Int32) (i : Nat) (v : Int32) : upd f i v i = v := if_pos rfl
theorem upd_ne (f : Nat → Int32) {i j : Nat} (v : Int32) (q : j ≠ i) : upd f i v j = f j := if_neg q
theorem Arf.lt {a : Addr} {ty : FieldType} {N : Nat} {f : Nat → Int32} (A : Arf Z h a ty N f) : a < h.size := by obtain ⟨_, A, -⟩ := A; exact A.lt
theorem Arf.ext {a : Addr} {ty : FieldType} {N : Nat} {f : Nat → Int32} {h' : Heap} (A : Arf Z h a ty N f) (E : Ext h h') : Arf Z h' a ty N f := by obtain ⟨cl, A, r⟩ := A; exact ⟨cl, A.ext E, r⟩
theorem Arf.other {a b : Addr} {ty : FieldType} {N sl : Nat} {f : Nat → Int32} {h' : Heap} {v : Value} (A : Arf Z h b ty N f) (W : Wr h h' a sl v) (q : b ≠ a) : Arf Z h' b ty N f := by obtain ⟨cl, A, r⟩ := A; exact ⟨cl, A.other W q, r⟩
theorem Arf.keep {a : Addr} {ty : FieldType} {N : Nat} {f : Nat → Int32} {h' : Heap} {ws : List Addr} (A : Arf Z h a ty N f) (K : Keep h h' ws) (q : a ∉ ws) : Arf Z h' a ty N f := by obtain ⟨cl, A, r⟩ := A; exact ⟨cl, ⟨K.2.1 a cl A.1 q, A.2⟩, r⟩
theorem Arf.cast {a : Addr} {ty : FieldType} {N : Nat} {f g : Nat → Int32} (A : Arf Z h a ty N f) (q : ∀ j, j < N → f j = g j) : Arf Z h a ty N g := by obtain ⟨cl, A, S, H⟩ := A; exact ⟨cl, A, S, fun j hj => by rw [H j hj, q j hj]⟩
theorem Arf.set {a : Addr} {ty : FieldType} {N i : Nat} {f : Nat → Int32} {h' : Heap} {v : Int32} (A : Arf Z h a ty N f) (W : Wr h h' a i (.int v)) : Arf Z h' a ty N (upd f i v) := by
  obtain ⟨cl, A, S, H⟩ := A
  refine ⟨_, A.same W, by rw [sz_set]; exact S, fun j hj => ?_⟩
  by_cases q : j = i
  · subst q; rw [upd_same]; simp [Cell.setSlot, S, hj]
  · rw [upd_ne f v q]; simp only [Cell.setSlot]; rw [Array.getElem?_setIfInBounds_ne (Ne.symm q)]; exact H j hj
theorem ix_clamp {j : Int32} {i : Nat} (hj : j.toInt = i) : j.toNatClampNeg = i := by simp [Int32.toNatClampNeg, hj]
theorem ix_in {j : Int32} {i N : Nat} (hj : j.toInt = i) (hi : i < N) {cl : Cell} (S : cl.slots.size = N) : ¬ (j < 0 ∨ cl.slots.size ≤ j.toNatClampNeg) := by
  rw [ix_clamp hj, S, Int32.lt_iff_toInt_lt, hj]
  have e0 : (0 : Int32).toInt = 0 := rfl
  omega
theorem r_baload (X : Here p l e R s m args below meth c Z own nm bs ml rt n0 T h k n) {a : Addr} {N i : Nat} {f : Nat → Int32} {j v : Int32} (hd : decode bs pc = .ok (.baload, 1)) (A : Arf Z h a .byte N f) (hj : j.toInt = i) (hi : i < N) (hv : f i = v) (hp : pc + 1 = pc') (r : Run p e below F T (mkF m pc' ls (.int v :: st))) : Run p e below F T (mkF m pc ls (.int j :: .ref a :: st)) := by
  obtain ⟨⟨hx, hby, hml, hZ, hown, hnm, hret, hlk⟩, hs0, eT, locs, S, N⟩ := X
  subst hp hv
  obtain ⟨cl, A, SZ, H⟩ := A
  exact Run.of (fun t q => S.baloadBytes hx (j := j) (by rw [eT]; exact A.1) (State.isArrayOf_alike hZ.alike A.2.1) A.2.2 (ix_in hj hi SZ) (by rw [ix_clamp hj]; exact H i hi) (g := mkF m pc ls (.int j :: .ref a :: st)) rfl rfl (hb hby hd) t q) r
theorem r_caload (X : Here p l e R s m args below meth c Z own nm bs ml rt n0 T h k n) {a : Addr} {N i : Nat} {f : Nat → Int32} {j v : Int32} (hd : decode bs pc = .ok (.caload, 1)) (A : Arf Z h a .char N f) (hj : j.toInt = i) (hi : i < N) (hv : f i = v) (hp : pc + 1 = pc') (r : Run p e below F T (mkF m pc' ls (.int v :: st))) : Run p e below F T (mkF m pc ls (.int j :: .ref a :: st)) := by
  obtain ⟨⟨hx, hby, hml, hZ, hown, hnm, hret, hlk⟩, hs0, eT, locs, S, N⟩ := X
  subst hp hv
  obtain ⟨cl, A, SZ, H⟩ := A
  exact Run.of (fun t q => S.caload hx (j := j) (by rw [eT]; exact A.1) (State.isArrayOf_alike hZ.alike A.2.1) A.2.2 (ix_in hj hi SZ) (by rw [ix_clamp hj]; exact H i hi) (g := mkF m pc ls (.int j :: .ref a :: st)) rfl rfl (hb hby hd) t q) r
theorem r_iaload (X : Here p l e R s m args below meth c Z own nm bs ml rt n0 T h k n) {a : Addr} {N i : Nat} {f : Nat → Int32} {j v : Int32} (hd : decode bs pc = .ok (.iaload, 1)) (A : Arf Z h a .int N f) (hj : j.toInt = i) (hi : i < N) (hv : f i = v) (hp : pc + 1 = pc') (r : Run p e below F T (mkF m pc' ls (.int v :: st))) : Run p e below F T (mkF m pc ls (.int j :: .ref a :: st)) := by
  obtain ⟨⟨hx, hby, hml, hZ, hown, hnm, hret, hlk⟩, hs0, eT, locs, S, N⟩ := X
  subst hp hv
  obtain ⟨cl, A, SZ, H⟩ := A
  exact Run.of (fun t q => S.iaload hx (j := j) (by rw [eT]; exact A.1) (State.isArrayOf_alike hZ.alike A.2.1) A.2.2 (ix_in hj hi SZ) (by rw [ix_clamp hj]; exact H i hi) (g := mkF m pc ls (.int j :: .ref a :: st)) rfl rfl (hb hby hd) t q) r
theorem r_arraylength (X : Here p l e R s m args below meth c Z own nm bs ml rt n0 T h k n) {a : Addr} {ty : FieldType} {N : Nat} {f : Nat → Int32} {v : Int32} (hd : decode bs pc = .ok (.arraylength, 1)) (A : Arf Z h a ty N f) (hv : N.toInt32 = v) (hp : pc + 1 = pc') (r : Run p e below F T (mkF m pc' ls (.int v :: st))) : Run p e below F T (mkF m pc ls (.ref a :: st)) := by
  obtain ⟨⟨hx, hby, hml, hZ, hown, hnm, hret, hlk⟩, hs0, eT, locs, S, N⟩ := X
  subst hp hv
  obtain ⟨cl, A, SZ, H⟩ := A
  subst SZ
  exact Run.of (fun t q => S.arraylength hx (cell := cl) (by rw [eT]; exact A.1) (State.isArrayOf_alike hZ.alike A.2.1) (g := mkF m pc ls (.ref a :: st)) rfl rfl (hb hby hd) t q) r
theorem r_bastore (X : Here p l e R s m args below meth c Z own nm bs ml rt n0 T h k n) {a : Addr} {N i : Nat} {f : Nat → Int32} {j x v : Int32} (hd : decode bs pc = .ok (.bastore, 1)) (A : Arf Z h a .byte N f) (hj : j.toInt = i) (hi : i < N) (ge : n0 ≤ a) (hv : nar .byte x = v) (hp : pc + 1 = pc') (r : ∀ T' h', Here p l e R s m args below meth c Z own nm bs ml rt n0 T' h' k n → Wr h h' a i (.int v) → Arf Z h' a .byte N (upd f i v) → Run p e below F T' (mkF m pc' ls st)) : Run p e below F T (mkF m pc ls (.int x :: .int j :: .ref a :: st)) := by
  obtain ⟨⟨hx, hby, hml, hZ, hown, hnm, hret, hlk⟩, hs0, eT, locs, S, N_⟩ := X
  subst hp hv
  obtain ⟨cl, A, SZ, H⟩ := A
  obtain ⟨T', h', X', e', W, st'⟩ := stB S hx hZ eT A (j := j) (x := x) (ix_in hj hi SZ) (g := mkF m pc ls (.int x :: .int j :: .ref a :: st)) rfl rfl (hb hby hd)
  rw [ix_clamp hj] at W
  refine Run.of (fun t q => st' t q) (r T' h' ⟨⟨hx, hby, hml, hZ, hown, hnm, hret, hlk⟩, ?_, e', _, X', Fr.snoc X' N_ ge⟩ W (Arf.set ⟨cl, A, SZ, H⟩ W))
  rw [W.size]; exact hs0
theorem r_castore (X : Here p l e R s m args below meth c Z own nm bs ml rt n0 T h k n) {a : Addr} {N i : Nat} {f : Nat → Int32} {j x v : Int32} (hd : decode bs pc = .ok (.castore, 1)) (A : Arf Z h a .char N f) (hj : j.toInt = i) (hi : i < N) (ge : n0 ≤ a) (hv : nar .char x = v) (hp : pc + 1 = pc') (r : ∀ T' h', Here p l e R s m args below meth c Z own nm bs ml rt n0 T' h' k n → Wr h h' a i (.int v) → Arf Z h' a .char N (upd f i v) → Run p e below F T' (mkF m pc' ls st)) : Run p e below F T (mkF m pc ls (.int x :: .int j :: .ref a :: st)) := by
  obtain ⟨⟨hx, hby, hml, hZ, hown, hnm, hret, hlk⟩, hs0, eT, locs, S, N_⟩ := X
  subst hp hv
  obtain ⟨cl, A, SZ, H⟩ := A
  obtain ⟨T', h', X', e', W, st'⟩ := stC S hx hZ eT A (j := j) (x := x) (ix_in hj hi SZ) (g := mkF m pc ls (.int x :: .int j :: .ref a :: st)) rfl rfl (hb hby hd)
  rw [ix_clamp hj] at W
  refine Run.of (fun t q => st' t q) (r T' h' ⟨⟨hx, hby, hml, hZ, hown, hnm, hret, hlk⟩, ?_, e', _, X', Fr.snoc X' N_ ge⟩ W (Arf.set ⟨cl, A, SZ, H⟩ W))
  rw [W.size]; exact hs0
theorem r_iastore (X : Here p l e R s m args below meth c Z own nm bs ml rt n0 T h k n) {a : Addr} {N i : Nat} {f : Nat → Int32} {j x v : Int32} (hd : decode bs pc = .ok (.iastore, 1)) (A : Arf Z h a .int N f) (hj : j.toInt = i) (hi : i < N) (ge : n0 ≤ a) (hv : x = v) (hp : pc + 1 = pc') (r : ∀ T' h', Here p l e R s m args below meth c Z own nm bs ml rt n0 T' h' k n → Wr h h' a i (.int v) → Arf Z h' a .int N (upd f i v) → Run p e below F T' (mkF m pc' ls st)) : Run p e below F T (mkF m pc ls (.int x :: .int j :: .ref a :: st)) := by
  obtain ⟨⟨hx, hby, hml, hZ, hown, hnm, hret, hlk⟩, hs0, eT, locs, S, N_⟩ := X
  subst hp hv
  obtain ⟨cl, A, SZ, H⟩ := A
  obtain ⟨T', h', X', e', W, st'⟩ := stI S hx hZ eT A (j := j) (x := x) (ix_in hj hi SZ) (g := mkF m pc ls (.int x :: .int j :: .ref a :: st)) rfl rfl (hb hby hd)
  rw [ix_clamp hj] at W
  refine Run.of (fun t q => st' t q) (r T' h' ⟨⟨hx, hby, hml, hZ, hown, hnm, hret, hlk⟩, ?_, e', _, X', Fr.snoc X' N_ ge⟩ W (Arf.set ⟨cl, A, SZ, H⟩ W))
  rw [W.size]; exact hs0
theorem r_newarray (X : Here p l e R s m args below meth c Z own nm bs ml rt n0 T h k n) {aty : ArrayType} {z : Int32} {N : Nat} (hd : decode bs pc = .ok (.newarray aty, 2)) (w : (Jvm.Cond.arrayClass (newarray.typeOf aty)).before a0 Z = true) (hz : z.toInt = N) (hdf : defaultValue (newarray.typeOf aty) = .int 0) (hb8 : N * 8 ≤ 536870912) (hc : k + 1 ≤ R.cells) (hl : n + N ≤ R.slots) (hp : pc + 2 = pc') (r : ∀ T' h' b, Here p l e R s m args below meth c Z own nm bs ml rt n0 T' h' (k + 1) (n + N) → b = h.size → n0 ≤ b → Ext h h' → Arf Z h' b (newarray.typeOf aty) N (fun _ => 0) → Run p e below F T' (mkF m pc' ls (.ref b :: st))) : Run p e below F T (mkF m pc ls (.int z :: st)) := by
  obtain ⟨⟨hx, hby, hml, hZ, hown, hnm, hret, hlk⟩, hs0, eT, locs, S, N_⟩ := X
  subst hp
  have hneg : ¬ z < 0 := by
    rw [Int32.lt_iff_toInt_lt, hz]
    have e0 : (0 : Int32).toInt = 0 := rfl
    omega
  obtain ⟨T', h', cA, X', e', E, A, st'⟩ := newP S hx hZ w eT (g := mkF m pc ls (.int z :: st)) rfl (hb hby hd) rfl hneg (cap := N) (Nat.le_of_eq (ix_clamp hz)) hb8 hc hl
  refine Run.of (fun t q => st' t q) (r T' h' h.size ⟨⟨hx, hby, hml, hZ, hown, hnm, hret, hlk⟩, Nat.le_trans hs0 E.1, e', _, X', N_⟩ rfl hs0 E ⟨_, A, (sz_new _ _ _).trans (ix_clamp hz), fun j hj => ?_⟩)
  simp [newA, ix_clamp hz, hj, hdf]
theorem r_new (X : Here p l e R s m args below meth c Z own nm bs ml rt n0 T h k n) {C : String} {i sz : Nat} (hd : decode bs pc = .ok (.new i, 3)) (w : (Jvm.Cond.classLink own i C).before a0 Z = true) (wi : (Jvm.Cond.instantiable C sz).before a0 Z = true) (wz : (Jvm.Cond.initialized C).before a0 Z = true) (hc : k + 1 ≤ R.cells) (hl : n + sz ≤ R.slots) (hp : pc + 3 = pc') (r : ∀ T' h' b, Here p l e R s m args below meth c Z own nm bs ml rt n0 T' h' (k + 1) (n + sz) → b = h.size → n0 ≤ b → Ext h h' → Exa Z h' b C → (∀ {O f d : String} {ty : FieldType}, Laid Z a0 C O f d → parseFieldDescriptor d = some ty → Fld Z h' b O f d (defaultValue ty)) → Run p e below F T' (mkF m pc' ls (.ref b :: st))) : Run p e below F T (mkF m pc ls st) := by
  obtain ⟨⟨hx, hby, hml, hZ, hown, hnm, hret, hlk⟩, hs0, eT, locs, S, N⟩ := X
  subst hp
  obtain ⟨T', h', X', e', E, A, D, -, st'⟩ := newO S hx hZ hown w wi wz eT (g := mkF m pc ls st) rfl (hb hby hd) hc hl
  exact Run.of (fun t q => st' t q) (r T' h' h.size ⟨⟨hx, hby, hml, hZ, hown, hnm, hret, hlk⟩, Nat.le_trans hs0 E.1, e', _, X', N⟩ rfl hs0 E A D)
theorem r_getfield (X : Here p l e R s m args below meth c Z own nm bs ml rt n0 T h k n) {R0 f d : String} {i : Nat} {a : Addr} {v : Value} (hd : decode bs pc = .ok (.getfield i, 3)) (w : (Jvm.Cond.fieldLink own i R0 f d).before a0 Z = true) (Ff : Fld Z h a R0 f d v) (hp : pc + 3 = pc') (r : ∀ T', Here p l e R s m args below meth c Z own nm bs ml rt n0 T' h k n → Run p e below F T' (mkF m pc' ls (v :: st))) : Run p e below F T (mkF m pc ls (.ref a :: st)) := by
  obtain ⟨⟨hx, hby, hml, hZ, hown, hnm, hret, hlk⟩, hs0, eT, locs, S, N⟩ := X
  subst hp
  obtain ⟨T', X', e', st'⟩ := getF S hx hZ hown (host := "") (Or.inl w) Via.refl eT Ff (g := mkF m pc ls (.ref a :: st)) rfl rfl (hb hby hd)
  exact Run.of (fun t q => st' t q) (r T' ⟨⟨hx, hby, hml, hZ, hown, hnm, hret, hlk⟩, hs0, e', _, X', N⟩)
theorem r_putfield (X : Here p l e R s m args below meth c Z own nm bs ml rt n0 T h k n) {R0 f d C : String} {i kk : Nat} {a : Addr} {v old : Value} {ty : FieldType} (hd : decode bs pc = .ok (.putfield i, 3)) (w : (Jvm.Cond.fieldLink own i R0 f d).before a0 Z = true) (Ff : Fld Z h a R0 f d old) (E : Exa Z h a C) (L : (Jvm.Cond.lays C R0 f d).before a0 Z = true ∨ ((Jvm.Cond.laysFinal C R0 f d).before a0 Z = true ∧ own = R0 ∧ nm = "<init>")) (wi : (Jvm.Cond.instantiable C kk).before a0 Z = true) (hty : parseFieldDescriptor d = some ty) (hn : narrow ty v = v) (hf : fits ty v = true) (ge : n0 ≤ a) (hp : pc + 3 = pc') (r : ∀ T' h', Here p l e R s m args below meth c Z own nm bs ml rt n0 T' h' k n → Wr h h' a (Jvm.RoadKit.slotOf Z R0 f d) v → Run p e below F T' (mkF m pc' ls st)) : Run p e below F T (mkF m pc ls (v :: .ref a :: st)) := by
  obtain ⟨⟨hx, hby, hml, hZ, hown, hnm, hret, hlk⟩, hs0, eT, locs, S, N⟩ := X
  subst hp
  obtain ⟨T', h', X', e', W, st'⟩ := putF S hx hZ hown (host := "") (Or.inl w) Via.refl eT Ff E (L.imp id fun q => ⟨q.1, q.2.1, hnm.trans q.2.2⟩) wi hty hn hf (g := mkF m pc ls (v :: .ref a :: st)) rfl rfl (hb hby hd)
  refine Run.of (fun t q => st' t q) (r T' h' ⟨⟨hx, hby, hml, hZ, hown, hnm, hret, hlk⟩, ?_, e', _, X', Fr.snoc X' N ge⟩ W)
  rw [W.size]; exact hs0
theorem r_initObject (X : Here p l e R s m args below meth c Z own nm bs ml rt n0 T h k n) {i : Nat} {a : Addr} (hd : decode bs pc = .ok (.invokespecial i, 3)) (w1 : (Jvm.Cond.methodLink own i Lib.objectInit).before a0 Z = true) (w2 : (Jvm.Cond.instanceMethod Lib.objectInit).before a0 Z = true) (w3 : (Jvm.Cond.code Lib.objectInit ⟨#[0xb1]⟩ 1 none).before a0 Z = true) (hsz : ls.size = ml) (hf : 1 ≤ R.frames) {W : Nat} (hW : (st.map fun v => v.category).sum = W) (hl : W + 12 ≤ R.locals) (hp : pc + 3 = pc') (r : ∀ T', Here p l e R s m args below meth c Z own nm bs ml rt n0 T' h k n → Run p e below F T' (mkF m pc' ls st)) : Run p e below F T (mkF m pc ls (.ref a :: st)) := by
  obtain ⟨⟨hx, hby, hml, hZ, hown, hnm, hret, hlk⟩, hs0, eT, locs, S, N⟩ := X
  subst hp
  obtain ⟨T', X', e', st'⟩ := initO S hx hZ hown w1 w2 w3 eT (g := mkF m pc ls (.ref a :: st)) rfl (by rw [hml]; exact hsz) rfl (hb hby hd) hf (W := W) (by show 2 * 0 + _ ≤ _; rw [hW]; omega) hl
  exact Run.of (fun t q => st' t q) (r T' ⟨⟨hx, hby, hml, hZ, hown, hnm, hret, hlk⟩, hs0, e', _, X', N⟩)
theorem r_callS (X : Here p l e R s m args below meth c Z own nm bs ml rt n0 T h k n) {y : MethodName} {i : Nat} {bs' : ByteArray} {ml' : Nat} {rt' : Option FieldType} {rm : Room} {Q' : Option Value → Heap → Prop} {ps : List FieldType} {rr : Option FieldType} {argsL rest : List Value} {W : Nat} (hd : decode bs pc = .ok (.invokestatic i, 3)) (C : Con l Z y bs' ml' rt' rm argsL.toArray h n0 rm.cells rm.slots Q') (w1 : (Jvm.Cond.methodLink own i y).before a0 Z = true) (w2 : (Jvm.Cond.static y).before a0 Z = true) (w3 : (Jvm.Cond.initialized y.cls).before a0 Z = true) (w4 : (Jvm.Cond.code y bs' ml' rt').before a0 Z = true) (hy : y.cls ≠ "java/lang/invoke/MethodHandle" ∧ y.cls ≠ "java/lang/invoke/VarHandle") (hst : st = argsL.reverse ++ rest) (hsz : ls.size = ml) (hpd : parseMethodDescriptor y.desc = some ⟨ps, rr⟩) (hlen : argsL.length = ps.length) (hW : (rest.map fun v => v.category).sum = W) (hf : rm.frames + 1 ≤ R.frames) (hl : W + (ml' + 11) + rm.locals ≤ R.locals) (hc : k + rm.cells ≤ R.cells) (hs : n + rm.slots ≤ R.slots) (hp : pc + 3 = pc') (r : ∀ v T' h', Here p l e R s m args below meth c Z own nm bs ml rt n0 T' h' (k + rm.cells) (n + rm.slots) → Q' v h' → Run p e below F T' (mkF m pc' ls (v.toList ++ rest))) : Run p e below F T (mkF m pc ls st) := by
  obtain ⟨⟨hx, hby, hml, hZ, hown, hnm, hret, hlk⟩, hs0, eT, locs, S, N⟩ := X
  subst hp hst
  obtain ⟨v, _, B, -, X', ⟨L, hQ, l1, l2, l3⟩, st'⟩ := Jvm.LawKit.callS S hx (y := y) hown (mvT hZ w1) (mvT hZ w2) (mvT hZ w3) (mvT hZ w4) hy (backOf (W := W) (Q := fun v hh L => Q' v hh ∧ n0 ≤ hh.size ∧ Fr n0 L) (C []) hZ w4 w3 hf hl) (g := mkF m pc ls (argsL.reverse ++ rest)) rfl (by rw [hml]; exact hsz) (argsL := argsL) (rest := rest) (lenOf hpd hlen) rfl (by show 2 * 0 + _ ≤ _; rw [hW]; omega) (hb hby hd) (fun _ _ => ⟨rfl, eT, hc, hs⟩)
  obtain ⟨hQ, hs1, hF⟩ := hQ
  have X'' : Here p l e R s m args below meth c Z own nm bs ml rt n0 B.U B.U.heap (k + rm.cells) (n + rm.slots) := ⟨⟨hx, hby, hml, hZ, hown, hnm, hret, hlk⟩, hs1, rfl, B.locs, by rw [l2, l3] at X'; exact X', by rw [l1]; exact Fr.app N hF⟩
  exact Run.of (fun t q => st' t q) (r v B.U B.U.heap X'' hQ)
theorem r_init (X : Here p l e R s m args below meth c Z own nm bs ml rt n0 T h k n) {y : MethodName} {i : Nat} {bs' : ByteArray} {ml' : Nat} {rm : Room} {Q' : Option Value → Heap → Prop} {ps : List FieldType} {rr : Option FieldType} {argsL rest : List Value} {W : Nat} {a : Addr} (hd : decode bs pc = .ok (.invokespecial i, 3)) (C : Con l Z y bs' ml' none rm (.ref a :: argsL).toArray h n0 rm.cells rm.slots Q') (hy1 : y.name = "<init>") (w1 : (Jvm.Cond.methodLink own i y).before a0 Z = true) (w2 : (Jvm.Cond.instanceMethod y).before a0 Z = true) (w3 : (Jvm.Cond.initialized y.cls).before a0 Z = true) (w4 : (Jvm.Cond.code y bs' ml' none).before a0 Z = true) (hy : y.cls ≠ "java/lang/invoke/MethodHandle" ∧ y.cls ≠ "java/lang/invoke/VarHandle") (hst : st = argsL.reverse ++ .ref a :: rest) (hsz : ls.size = ml) (hpd : parseMethodDescriptor y.desc = some ⟨ps, rr⟩) (hlen : argsL.length = ps.length) (hW : (rest.map fun v => v.category).sum = W) (hf : rm.frames + 1 ≤ R.frames) (hl : W + (ml' + 11) + rm.locals ≤ R.locals) (hc : k + rm.cells ≤ R.cells) (hs : n + rm.slots ≤ R.slots) (hp : pc + 3 = pc') (r : ∀ v T' h', Here p l e R s m args below meth c Z own nm bs ml rt n0 T' h' (k + rm.cells) (n + rm.slots) → Q' v h' → Run p e below F T' (mkF m pc' ls (v.toList ++ rest))) : Run p e below F T (mkF m pc ls st) := by
  obtain ⟨⟨hx, hby, hml, hZ, hown, hnm, hret, hlk⟩, hs0, eT, locs, S, N⟩ := X
  subst hp hst
  obtain ⟨v, _, B, -, X', ⟨L, hQ, l1, l2, l3⟩, st'⟩ := S.specialBack hx (y := y) hy1 hown (mvT hZ w1) (mvT hZ w2) (mvT hZ w4) hy (backOf (W := W) (Q := fun v hh L => Q' v hh ∧ n0 ≤ hh.size ∧ Fr n0 L) (C []) hZ w4 w3 hf hl) (g := mkF m pc ls (argsL.reverse ++ .ref a :: rest)) rfl (by rw [hml]; exact hsz) (Steps.refl _) (a := a) (argsL := argsL) (rest := rest) (lenOf hpd hlen) rfl (by show 2 * 0 + _ ≤ _; rw [hW]; omega) (hb hby hd) (fun _ _ => ⟨rfl, eT, hc, hs⟩)
  obtain ⟨hQ, hs1, hF⟩ := hQ
  have X'' : Here p l e R s m args below meth c Z own nm bs ml rt n0 B.U B.U.heap (k + rm.cells) (n + rm.slots) := ⟨⟨hx, hby, hml, hZ, hown, hnm, hret, hlk⟩, hs1, rfl, B.locs, by rw [l2, l3] at X'; exact X', by rw [l1]; exact Fr.app N hF⟩
  exact Run.of (fun t q => st'.trans q) (r v B.U B.U.heap X'' hQ)
theorem r_callV (X : Here p l e R s m args below meth c Z own nm bs ml rt n0 T h k n) {y : MethodName} {i : Nat} {bs' : ByteArray} {ml' : Nat} {rt' : Option FieldType} {rm : Room} {Q' : Option Value → Heap → Prop} {ps : List FieldType} {rr : Option FieldType} {argsL rest : List Value} {W : Nat} {C0 : String} {a : Addr} (hd : decode bs pc = .ok (.invokevirtual i, 3)) (C : Con l Z y bs' ml' rt' rm (.ref a :: argsL).toArray h n0 rm.cells rm.slots Q') (E : Exa Z h a C0) (w1 : (Jvm.Cond.methodLink own i y).before a0 Z = true) (w2 : (Jvm.Cond.declares y).before a0 Z = true) (w5 : (Jvm.Cond.selects C0 y y).before a0 Z = true) (w6 : (Jvm.Cond.instanceMethod y).before a0 Z = true) (w3 : (Jvm.Cond.initialized y.cls).before a0 Z = true) (w4 : (Jvm.Cond.code y bs' ml' rt').before a0 Z = true) (hy : y.cls ≠ "java/lang/invoke/MethodHandle" ∧ y.cls ≠ "java/lang/invoke/VarHandle") (hst : st = argsL.reverse ++ .ref a :: rest) (hsz : ls.size = ml) (hpd : parseMethodDescriptor y.desc = some ⟨ps, rr⟩) (hlen : argsL.length = ps.length) (hW : (rest.map fun v => v.category).sum = W) (hf : rm.frames + 1 ≤ R.frames) (hl : W + (ml' + 11) + rm.locals ≤ R.locals) (hc : k + rm.cells ≤ R.cells) (hs : n + rm.slots ≤ R.slots) (hp : pc + 3 = pc') (r : ∀ v T' h', Here p l e R s m args below meth c Z own nm bs ml rt n0 T' h' (k + rm.cells) (n + rm.slots) → Q' v h' → Run p e below F T' (mkF m pc' ls (v.toList ++ rest))) : Run p e below F T (mkF m pc ls st) := by
  obtain ⟨⟨hx, hby, hml, hZ, hown, hnm, hret, hlk⟩, hs0, eT, locs, S, N⟩ := X
  subst hp hst
  obtain ⟨cq, kq, qa, qb, qc⟩ := isOf hZ eT E
  obtain ⟨v, _, B, -, X', ⟨L, hQ, l1, l2, l3⟩, st'⟩ := S.virtualBack hx (y := y) (z := y) hown (mvT hZ w1) (mvT hZ w2) (notFace_of_selects (args := #[]) (mvT hZ w5)) (mvT hZ w5) (mvT hZ w6) hy (backOf (W := W) (Q := fun v hh L => Q' v hh ∧ n0 ≤ hh.size ∧ Fr n0 L) (C []) hZ w4 w3 hf hl) qa qc (g := mkF m pc ls (argsL.reverse ++ .ref a :: rest)) rfl (by rw [hml]; exact hsz) (Steps.refl _) (argsL := argsL) (rest := rest) (lenOf hpd hlen) rfl (by show 2 * 0 + _ ≤ _; rw [hW]; omega) (hb hby hd) (fun _ _ => ⟨rfl, eT, hc, hs⟩)
  obtain ⟨hQ, hs1, hF⟩ := hQ
  have X'' : Here p l e R s m args below meth c Z own nm bs ml rt n0 B.U B.U.heap (k + rm.cells) (n + rm.slots) := ⟨⟨hx, hby, hml, hZ, hown, hnm, hret, hlk⟩, hs1, rfl, B.locs, by rw [l2, l3] at X'; exact X', by rw [l1]; exact Fr.app N hF⟩
  exact Run.of (fun t q => st'.trans q) (r v B.U B.U.heap X'' hQ)
end Own
/-- an int by its bits' number -/
theorem n_bits (x : Int32) : x.toInt = ((x.toBitVec.toNat : Int) + 2147483648) % 4294967296 - 2147483648 := by
  have e : x.toInt = x.toBitVec.toInt := rfl
  have hb := x.toBitVec.isLt
  rw [e, BitVec.toInt_eq_toNat_cond]
  split <;> omega
theorem n_i2b (x : Int32) : (x.toInt8.toInt32).toInt = (x.toInt + 128) % 256 - 128 := by
  rw [Int8.toInt_toInt32, Int32.toInt_toInt8, Int.bmod_def]; omega
theorem n_i2c (x : Int32) : (x.toUInt32.toUInt16.toUInt32.toInt32).toInt = x.toInt % 65536 := by
  have h : (x.toUInt32.toUInt16.toUInt32.toInt32).toBitVec.toNat = x.toBitVec.toNat % 65536 := by
    show ((x.toBitVec.setWidth 16).setWidth 32).toNat = _
    rw [BitVec.toNat_setWidth, BitVec.toNat_setWidth]; omega
  have h1 := n_bits (x.toUInt32.toUInt16.toUInt32.toInt32)
  have h2 := n_bits x
  have h3 := x.toBitVec.isLt
  omega
theorem n_narC (x : Int32) : nar .char x.toUInt32.toUInt16.toUInt32.toInt32 = x.toUInt32.toUInt16.toUInt32.toInt32 := by
  apply Int32.toInt_inj.mp
  show (Int32.toUInt32 _).toUInt16.toUInt32.toInt32.toInt = _
  rw [n_i2c, n_i2c]; omega
theorem n_narB (x : Int32) : nar .byte x.toInt8.toInt32 = x.toInt8.toInt32 := by
  apply Int32.toInt_inj.mp
  show (Int32.toInt8 _).toInt32.toInt = _
  rw [n_i2b, n_i2b]; omega
theorem n_add {x y : Int32} {a b : Int} (hx : x.toInt = a) (hy : y.toInt = b) (h1 : -2147483648 ≤ a + b) (h2 : a + b ≤ 2147483647) : (x + y).toInt = a + b := by
  subst hx hy; exact Jvm.Kit.i32_add (by omega) (by omega)
theorem n_sub {x y : Int32} {a b : Int} (hx : x.toInt = a) (hy : y.toInt = b) (h1 : -2147483648 ≤ a - b) (h2 : a - b ≤ 2147483647) : (x - y).toInt = a - b := by
  subst hx hy; exact Jvm.Kit.i32_sub (by omega) (by omega)
theorem n_nat {x : Int32} {n : Nat} (h : x.toInt = n) : x = Int32.ofNat n := by
  have a := x.toInt_lt
  exact Int32.toInt_inj.mp (by rw [h, Int32.toInt_ofNat_of_lt (by omega)])
theorem n_max (x : Int32) : 0 ≤ (x &&& (2147483647 : Int32)).toInt := by
  have : (x &&& (2147483647 : Int32)).toInt = x.toInt % 2 ^ 31 := Jvm.Kit.i32_mask x 2147483647 (k := 31) (by decide) (by decide)
  omega
theorem n_bitsL (x : Int64) : x.toInt = ((x.toBitVec.toNat : Int) + 9223372036854775808) % 18446744073709551616 - 9223372036854775808 := by
  have e : x.toInt = x.toBitVec.toInt := rfl
  have hb := x.toBitVec.isLt
  rw [e, BitVec.toInt_eq_toNat_cond]
  split <;> omega
theorem n_ushr (x y : Int32) (s : Nat) (hs : ((y &&& 31).toUInt32).toNat = s) (h1 : s < 32) : ((XT.ushr x y).toBitVec.toNat : Nat) = x.toBitVec.toNat / 2 ^ s := by
  show ((x.toUInt32 >>> (y &&& 31).toUInt32).toInt32).toBitVec.toNat = _
  simp only [UInt32.toBitVec_toInt32, UInt32.toBitVec_shiftRight, Int32.toBitVec_toUInt32]
  simp [BitVec.toNat_ushiftRight, Nat.shiftRight_eq_div_pow]
  have h2 : y.toBitVec.toNat &&& 31 = s := hs
  rw [h2, Nat.mod_eq_of_lt h1]
theorem n_natL (x : Int64) (h : 0 ≤ x.toInt) : (x.toBitVec.toNat : Int) = x.toInt := by
  have := n_bitsL x; have hb := x.toBitVec.isLt; omega
theorem n_cmp (x y : Int64) : (XT.cmpL x y).toInt = 0 ↔ x.toInt = y.toInt := by
  unfold XT.cmpL
  by_cases h : y < x
  · rw [if_pos h]
    rw [Int64.lt_iff_toInt_lt] at h
    constructor
    · intro q; exact absurd q (by decide)
    · intro q; omega
  · rw [if_neg h]
    by_cases h2 : x = y
    · rw [if_pos h2, h2]; exact ⟨fun _ => rfl, fun _ => rfl⟩
    · rw [if_neg h2]
      constructor
      · intro q; exact absurd q (by decide)
      · intro q; exact absurd (Int64.toInt_inj.mp q) h2
theorem n_i2lN (y : Int32) (s : Nat) (hs : y.toInt = s) : y.toInt64.toBitVec.toNat = s := by
  have h1 : y.toInt64.toInt = s := by rw [Int32.toInt_toInt64, hs]
  have := n_natL y.toInt64 (by omega)
  omega
theorem n_sh63 (y : Int32) (s : Nat) (hs : y.toInt = s) (h : s < 64) : (y.toInt64 &&& 63).toBitVec.toNat = s := by
  have h1 := n_i2lN y s hs
  have h2 : (y.toInt64 &&& (63 : Int64)).toBitVec.toNat = y.toInt64.toBitVec.toNat &&& 63 := by rw [Int64.toBitVec_and, BitVec.toNat_and]; rfl
  rw [h2, h1, show (63 : Nat) = 2 ^ 6 - 1 from rfl, Nat.and_two_pow_sub_one_eq_mod]
  omega
theorem n_ushrL (x : Int64) (y : Int32) (s : Nat) (hs : y.toInt = s) (h : s < 64) : (XT.ushrL x y).toBitVec.toNat = x.toBitVec.toNat / 2 ^ s := by
  have h1 := n_sh63 y s hs h
  have h2 : (y.toInt64.toUInt64 &&& Int64.toUInt64 63).toNat = s := h1
  show ((x.toUInt64 >>> (y.toInt64.toUInt64 &&& Int64.toUInt64 63)).toInt64).toBitVec.toNat = _
  simp only [UInt64.toBitVec_toInt64, UInt64.toBitVec_shiftRight, Int64.toBitVec_toUInt64]
  simp [BitVec.toNat_ushiftRight, Nat.shiftRight_eq_div_pow]
  have h3 : (y.toInt64.toUInt64 &&& Int64.toUInt64 63).toBitVec.toNat = s := h2
  simp at h3
  rw [h3, Nat.mod_eq_of_lt h]
theorem n_shlL (x : Int64) (y : Int32) (s : Nat) (hs : y.toInt = s) (h : s < 64) : (x <<< (y.toInt64 &&& 63)).toBitVec.toNat = (x.toBitVec.toNat * 2 ^ s) % 2 ^ 64 := by
  have h1 := n_sh63 y s hs h
  have h2 : (((y.toInt64 &&& 63) : Int64).toBitVec.smod 64).toNat = s := by
    have e : ((y.toInt64 &&& 63) : Int64).toBitVec = BitVec.ofNat 64 s := by
      apply BitVec.eq_of_toNat_eq; rw [h1, BitVec.toNat_ofNat, Nat.mod_eq_of_lt (by omega)]
    rw [e]
    have t : ∀ k : Fin 64, ((BitVec.ofNat 64 k.val).smod 64).toNat = k.val := by decide +kernel
    exact t ⟨s, h⟩
  show (x.toBitVec <<< (((y.toInt64 &&& 63) : Int64).toBitVec.smod 64)).toNat = _
  rw [BitVec.shiftLeft_eq', BitVec.toNat_shiftLeft, h2, Nat.shiftLeft_eq]
theorem n_orL (x y : Int64) (k a b : Nat) (hx : x.toBitVec.toNat = a) (ha : a < 2 ^ k) (hy : y.toBitVec.toNat = b * 2 ^ k) : (x ||| y).toBitVec.toNat = a + b * 2 ^ k := by
  rw [Int64.toBitVec_or, BitVec.toNat_or, hx, hy, Nat.or_comm, ← Nat.shiftLeft_eq, ← Nat.shiftLeft_add_eq_or_of_lt ha]; omega
theorem n_m128 (x : Int64) : (x &&& (-128 : Int64)).toBitVec.toNat = x.toBitVec.toNat / 128 * 128 := by
  have e : (-128 : Int64).toBitVec = (BitVec.allOnes 64) <<< 7 := by decide
  rw [Int64.toBitVec_and, e, ← BitVec.shiftLeft_ushiftRight, BitVec.toNat_shiftLeft, BitVec.toNat_ushiftRight, Nat.shiftLeft_eq, Nat.shiftRight_eq_div_pow]
  have := x.toBitVec.isLt
  omega
theorem n_or128 (x : Int64) : ((x ||| (128 : Int64)).toBitVec.toNat) % 256 = x.toBitVec.toNat % 128 + 128 := by
  have e : (128 : Int64).toBitVec.toNat = 128 := by decide
  rw [Int64.toBitVec_or, BitVec.toNat_or, e]
  have h : ∀ a : Nat, (a ||| 128) % 256 = a % 128 + 128 := by
    intro a
    have h1 : (a ||| 128) % 2 ^ 8 = (a % 2 ^ 8) ||| (128 % 2 ^ 8) := Nat.or_mod_two_pow
    have h2 : ∀ c : Fin 256, (c.val ||| 128) = c.val % 128 + 128 := by decide +kernel
    have h3 := h2 ⟨a % 256, by omega⟩
    simp only at h3
    rw [show (256 : Nat) = 2 ^ 8 from rfl, h1, show (128 : Nat) % 2 ^ 8 = 128 from rfl, show (2 : Nat) ^ 8 = 256 from rfl, h3]; omega
  exact h _
/-- (int) of a long, by its bits -/
theorem n_l2i (x : Int64) : x.toInt32.toBitVec.toNat = x.toBitVec.toNat % 4294967296 := by
  show (x.toBitVec.signExtend 32).toNat = _
  rw [BitVec.signExtend_eq_setWidth_of_le _ (by decide), BitVec.toNat_setWidth]
def own_b (x : Int32) : Int32 := x.toInt8.toInt32
theorem own_nb (x : Int32) : nar .byte (own_b x) = own_b x := n_narB x
theorem own_bi (x : Int32) : (own_b x).toInt = (x.toInt + 128) % 256 - 128 := n_i2b x
theorem own_or (x : Int32) (h0 : 0 ≤ x.toInt) (h1 : x.toInt < 128) : (x ||| (128 : Int32)).toInt = x.toInt + 128 := by
  obtain ⟨n, hn⟩ : ∃ n : Nat, x.toInt = n := ⟨x.toInt.toNat, by omega⟩
  have t : ∀ k : Fin 128, ((Int32.ofNat k.val) ||| (128 : Int32)).toInt = (k.val : Int) + 128 := by decide +kernel
  have := t ⟨n, by omega⟩
  rw [← n_nat hn] at this
  rw [this, hn]
theorem own_or0 (x : Int32) : x ||| (0 : Int32) = x := by
  apply Int32.toBitVec_inj.mp
  rw [Int32.toBitVec_or]
  show x.toBitVec ||| 0#32 = _
  simp
/-- the group k of V -/
def own_g (V k : Nat) : Nat := V / 2 ^ (7 * k) % 128
theorem own_g_lt (V k : Nat) : own_g V k < 128 := Nat.mod_lt _ (by decide)
theorem own_grp (v : Int64) (V : Nat) (hV : v.toBitVec.toNat = V) (y : Int32) (k : Nat) (hy : y.toInt = ((7 * k : Nat) : Int)) (hk : k ≤ 9) : ((XT.ushrL v y) &&& (127 : Int64)).toInt32.toInt = own_g V k := by
  have h1 := n_ushrL v y (7 * k) hy (by omega)
  have h2 : ((XT.ushrL v y) &&& (127 : Int64)).toInt = (XT.ushrL v y).toInt % 2 ^ 7 := Jvm.Kit.i64_mask _ 127 (k := 7) (by decide) (by decide)
  have h3 := n_bitsL (XT.ushrL v y)
  rw [h1, hV] at h3
  have h4 : own_g V k = V / 2 ^ (7 * k) % 128 := rfl
  rw [Jvm.Kit.i32_of_i64 (by omega) (by omega), h2, h4]
  generalize V / 2 ^ (7 * k) = D at *
  omega
/-- the byte of the group k of n -/
def own_B (V n k : Nat) : Int := own_g V k - (if k + 1 < n then 128 else 0)
/-- the first k of n groups stand from p on -/
def own_M (V p n : Nat) (g : Nat → Int32) (k : Nat) : Prop := ∀ j, j < k → j < n → (g (p + j)).toInt = own_B V n j
theorem own_M_step {V p n k : Nat} {f g : Nat → Int32} (H : own_M V p n f k) (h1 : k < n → (g (p + k)).toInt = own_B V n k) (h2 : ∀ j, ¬ (k < n ∧ j = p + k) → g j = f j) : own_M V p n g (k + 1) := fun j hj hn => by
  by_cases e : j = k
  · subst e; exact h1 hn
  · rw [h2 (p + j) (by omega)]; exact H j (by omega) hn
theorem own_pw (k : Nat) (hk : k ≤ 9) : (2 : Nat) ^ (7 * k) ≤ 9223372036854775808 := by
  have : (2 : Nat) ^ (7 * k) ≤ 2 ^ 63 := Nat.pow_le_pow_right (by decide) (by omega)
  exact this
theorem own_md (V k : Nat) : V % 2 ^ (7 * k) + own_g V k * 2 ^ (7 * k) = V % 2 ^ (7 * (k + 1)) := by
  have h : (2 : Nat) ^ (7 * (k + 1)) = 2 ^ (7 * k) * 128 := by rw [Nat.mul_add, Nat.pow_add]
  rw [h, Nat.mod_mul]; unfold own_g; rw [Nat.mul_comm (V / 2 ^ (7 * k) % 128)]
theorem own_acc (u : Int64) (V : Nat) (hVb : V < 2 ^ 64) (b y : Int32) (k : Nat) (hu : u.toBitVec.toNat = V % 2 ^ (7 * k)) (hy : y.toInt = ((7 * k : Nat) : Int)) (hk : k ≤ 9) (hb : b.toInt % 128 = own_g V k) : (u ||| ((b &&& (127 : Int32)).toInt64 <<< (y.toInt64 &&& 63))).toBitVec.toNat = V % 2 ^ (7 * (k + 1)) := by
  have h0 : (b &&& (127 : Int32)).toInt = b.toInt % 2 ^ 7 := Jvm.Kit.i32_mask b 127 (k := 7) (by decide) (by decide)
  have h1 := n_i2lN (b &&& (127 : Int32)) (own_g V k) (by omega)
  have h2 := n_shlL (b &&& (127 : Int32)).toInt64 y (7 * k) hy (by omega)
  rw [h1] at h2
  have h3 := own_md V k
  have h4 : V % 2 ^ (7 * (k + 1)) ≤ V := Nat.mod_le _ _
  have h5 : own_g V k * 2 ^ (7 * k) < 2 ^ 64 := by omega
  rw [Nat.mod_eq_of_lt h5] at h2
  have h6 : V % 2 ^ (7 * k) < 2 ^ (7 * k) := Nat.mod_lt _ (Nat.pow_pos (by decide))
  rw [n_orL u _ (7 * k) _ _ hu h6 h2, h3]
theorem own_one (y : Int32) (s : Nat) (hs : y.toInt = s) (h : s < 64) (v : Int64) : (v &&& (((1 : Int64) <<< (y.toInt64 &&& 63)) - (1 : Int64))).toBitVec.toNat = v.toBitVec.toNat % 2 ^ s := by
  have h1 := n_shlL (1 : Int64) y s hs h
  have e1 : (1 : Int64).toBitVec.toNat = 1 := rfl
  have hp : (2 : Nat) ^ s < 2 ^ 64 := Nat.pow_lt_pow_right (by decide) h
  have hp1 : 0 < (2 : Nat) ^ s := Nat.pow_pos (by decide)
  rw [e1, Nat.one_mul, Nat.mod_eq_of_lt hp] at h1
  have h2 : (((1 : Int64) <<< (y.toInt64 &&& 63)) - (1 : Int64)).toBitVec.toNat = 2 ^ s - 1 := by
    rw [Int64.toBitVec_sub, BitVec.toNat_sub, h1, e1]
    omega
  rw [Int64.toBitVec_and, BitVec.toNat_and, h2, Nat.and_two_pow_sub_one_eq_mod]
theorem pn_com_example_edgesheet_edgesheet_core_ByteSourceReadVarintPinLaw : plainName "com/example/edgesheet/edgesheet/core/ByteSourceReadVarintPinLaw" = true := by first | (simp [plainName, overriddenIn]; done) | decide +kernel
theorem d_put_0 : decode method_2_code 0 = .ok (.iload_n 2, 1) := by decide +kernel
theorem d_put_1 : decode method_2_code 1 = .ok (.iload_n 3, 1) := by decide +kernel
theorem d_put_2 : decode method_2_code 2 = .ok (.if_icmp .ge 44, 3) := by decide +kernel
theorem d_put_46 : decode method_2_code 46 = .ok (.return_, 1) := by decide +kernel
theorem d_put_5 : decode method_2_code 5 = .ok (.lload 4, 2) := by decide +kernel
theorem d_put_7 : decode method_2_code 7 = .ok (.bipush 7, 2) := by decide +kernel
theorem d_put_9 : decode method_2_code 9 = .ok (.iload_n 2, 1) := by decide +kernel
theorem d_put_10 : decode method_2_code 10 = .ok (.imul, 1) := by decide +kernel
theorem d_put_11 : decode method_2_code 11 = .ok (.lushr, 1) := by decide +kernel
theorem d_put_12 : decode method_2_code 12 = .ok (.ldc2_w 7, 3) := by decide +kernel
theorem d_put_15 : decode method_2_code 15 = .ok (.land, 1) := by decide +kernel
theorem d_put_16 : decode method_2_code 16 = .ok (.l2i, 1) := by decide +kernel
theorem d_put_17 : decode method_2_code 17 = .ok (.istore 6, 2) := by decide +kernel
theorem d_put_19 : decode method_2_code 19 = .ok (.iload_n 2, 1) := by decide +kernel
theorem d_put_20 : decode method_2_code 20 = .ok (.iload_n 3, 1) := by decide +kernel
theorem d_put_21 : decode method_2_code 21 = .ok (.iconst 1, 1) := by decide +kernel
theorem d_put_22 : decode method_2_code 22 = .ok (.isub, 1) := by decide +kernel
theorem d_put_23 : decode method_2_code 23 = .ok (.if_icmp .ge 9, 3) := by decide +kernel
theorem d_put_32 : decode method_2_code 32 = .ok (.iconst 0, 1) := by decide +kernel
theorem d_put_33 : decode method_2_code 33 = .ok (.istore 7, 2) := by decide +kernel
theorem d_put_35 : decode method_2_code 35 = .ok (.aload_n 0, 1) := by decide +kernel
theorem d_put_36 : decode method_2_code 36 = .ok (.iload_n 1, 1) := by decide +kernel
theorem d_put_37 : decode method_2_code 37 = .ok (.iload_n 2, 1) := by decide +kernel
theorem d_put_38 : decode method_2_code 38 = .ok (.iadd, 1) := by decide +kernel
theorem d_put_39 : decode method_2_code 39 = .ok (.iload 6, 2) := by decide +kernel
theorem d_put_41 : decode method_2_code 41 = .ok (.iload 7, 2) := by decide +kernel
theorem d_put_43 : decode method_2_code 43 = .ok (.ior, 1) := by decide +kernel
theorem d_put_44 : decode method_2_code 44 = .ok (.i2b, 1) := by decide +kernel
theorem d_put_45 : decode method_2_code 45 = .ok (.bastore, 1) := by decide +kernel
theorem d_put_26 : decode method_2_code 26 = .ok (.sipush 128, 3) := by decide +kernel
theorem d_put_29 : decode method_2_code 29 = .ok (.goto 4, 3) := by decide +kernel
theorem pn_com_example_edgesheet_edgesheet_core_ByteSource : plainName "com/example/edgesheet/edgesheet/core/ByteSource" = true := by first | (simp [plainName, overriddenIn]; done) | decide +kernel
theorem d_init_ByteSource_0 : decode prog_6_method_1_code 0 = .ok (.aload_n 0, 1) := by decide +kernel
theorem d_init_ByteSource_1 : decode prog_6_method_1_code 1 = .ok (.invokespecial 1, 3) := by decide +kernel
theorem d_init_ByteSource_4 : decode prog_6_method_1_code 4 = .ok (.return_, 1) := by decide +kernel
theorem d_reset_0 : decode prog_6_method_2_code 0 = .ok (.aload_n 0, 1) := by decide +kernel
theorem d_reset_1 : decode prog_6_method_2_code 1 = .ok (.aload_n 1, 1) := by decide +kernel
theorem d_reset_2 : decode prog_6_method_2_code 2 = .ok (.putfield 7, 3) := by decide +kernel
theorem d_reset_5 : decode prog_6_method_2_code 5 = .ok (.aload_n 0, 1) := by decide +kernel
theorem d_reset_6 : decode prog_6_method_2_code 6 = .ok (.iload_n 2, 1) := by decide +kernel
theorem d_reset_7 : decode prog_6_method_2_code 7 = .ok (.putfield 13, 3) := by decide +kernel
theorem d_reset_10 : decode prog_6_method_2_code 10 = .ok (.return_, 1) := by decide +kernel
theorem d_position_0 : decode prog_6_method_4_code 0 = .ok (.aload_n 0, 1) := by decide +kernel
theorem d_position_1 : decode prog_6_method_4_code 1 = .ok (.getfield 13, 3) := by decide +kernel
theorem d_position_4 : decode prog_6_method_4_code 4 = .ok (.ireturn, 1) := by decide +kernel
theorem d_readVarint_4 : decode prog_6_method_7_code 4 = .ok (.aload_n 0, 1) := by decide +kernel
theorem d_readVarint_5 : decode prog_6_method_7_code 5 = .ok (.getfield 7, 3) := by decide +kernel
theorem d_readVarint_8 : decode prog_6_method_7_code 8 = .ok (.aload_n 0, 1) := by decide +kernel
theorem d_readVarint_9 : decode prog_6_method_7_code 9 = .ok (.dup, 1) := by decide +kernel
theorem d_readVarint_10 : decode prog_6_method_7_code 10 = .ok (.getfield 13, 3) := by decide +kernel
theorem d_readVarint_13 : decode prog_6_method_7_code 13 = .ok (.dup_x1, 1) := by decide +kernel
theorem d_readVarint_14 : decode prog_6_method_7_code 14 = .ok (.iconst 1, 1) := by decide +kernel
theorem d_readVarint_15 : decode prog_6_method_7_code 15 = .ok (.iadd, 1) := by decide +kernel
theorem d_readVarint_16 : decode prog_6_method_7_code 16 = .ok (.putfield 13, 3) := by decide +kernel
theorem d_readVarint_19 : decode prog_6_method_7_code 19 = .ok (.baload, 1) := by decide +kernel
theorem d_readVarint_20 : decode prog_6_method_7_code 20 = .ok (.istore 4, 2) := by decide +kernel
theorem d_readVarint_22 : decode prog_6_method_7_code 22 = .ok (.lload_n 1, 1) := by decide +kernel
theorem d_readVarint_23 : decode prog_6_method_7_code 23 = .ok (.iload 4, 2) := by decide +kernel
theorem d_readVarint_25 : decode prog_6_method_7_code 25 = .ok (.bipush 127, 2) := by decide +kernel
theorem d_readVarint_27 : decode prog_6_method_7_code 27 = .ok (.iand, 1) := by decide +kernel
theorem d_readVarint_28 : decode prog_6_method_7_code 28 = .ok (.i2l, 1) := by decide +kernel
theorem d_readVarint_29 : decode prog_6_method_7_code 29 = .ok (.iload_n 3, 1) := by decide +kernel
theorem d_readVarint_30 : decode prog_6_method_7_code 30 = .ok (.lshl, 1) := by decide +kernel
theorem d_readVarint_31 : decode prog_6_method_7_code 31 = .ok (.lor, 1) := by decide +kernel
theorem d_readVarint_32 : decode prog_6_method_7_code 32 = .ok (.lstore_n 1, 1) := by decide +kernel
theorem d_readVarint_33 : decode prog_6_method_7_code 33 = .ok (.iinc 3 7, 3) := by decide +kernel
theorem d_readVarint_36 : decode prog_6_method_7_code 36 = .ok (.iload 4, 2) := by decide +kernel
theorem d_readVarint_38 : decode prog_6_method_7_code 38 = .ok (.ifCond .lt (-34), 3) := by decide +kernel
theorem d_readVarint_41 : decode prog_6_method_7_code 41 = .ok (.lload_n 1, 1) := by decide +kernel
theorem d_readVarint_42 : decode prog_6_method_7_code 42 = .ok (.lreturn, 1) := by decide +kernel
theorem d_readVarint_0 : decode prog_6_method_7_code 0 = .ok (.lconst 0, 1) := by decide +kernel
theorem d_readVarint_1 : decode prog_6_method_7_code 1 = .ok (.lstore_n 1, 1) := by decide +kernel
theorem d_readVarint_2 : decode prog_6_method_7_code 2 = .ok (.iconst 0, 1) := by decide +kernel
theorem d_readVarint_3 : decode prog_6_method_7_code 3 = .ok (.istore_n 3, 1) := by decide +kernel
theorem pd_put : parseMethodDescriptor "([BIIIJ)V" = some ⟨[.array (.byte), .int, .int, .int, .long], none⟩ := by decide +kernel
theorem pd_init_ByteSource : parseMethodDescriptor "()V" = some ⟨[], none⟩ := by decide +kernel
theorem pd_reset : parseMethodDescriptor "([BI)V" = some ⟨[.array (.byte), .int], none⟩ := by decide +kernel
theorem pd_readVarint : parseMethodDescriptor "()J" = some ⟨[], (some .long)⟩ := by decide +kernel
theorem pd_position : parseMethodDescriptor "()I" = some ⟨[], (some .int)⟩ := by decide +kernel
set_option maxRecDepth 65536 in
set_option maxHeartbeats 40000000 in
theorem con_put (l : Launch) (Z : State) (a0 : Array Value) (hw : ∀ d ∈ tables_1, d.before a0 Z = true) (t1 : Addr) (q1 q2 q3 : Int32) (q4 : Int64) (f : Nat → Int32) (i k n V : Nat) (h0 : Heap) (n0 : Nat) (Z0 : n0 ≤ h0.size) (A0 : Arf Z h0 t1 .byte 14 f) (g1 : n0 ≤ t1) (hq1 : q1.toInt = i) (hi : i ≤ 3) (hq2 : q2.toInt = k) (hk : k ≤ 9) (hq3 : q3.toInt = n) (hn1 : 1 ≤ n) (hn : n ≤ 10) (hV : q4.toBitVec.toNat = V) : Con l Z (⟨"com/example/edgesheet/edgesheet/core/ByteSourceReadVarintPinLaw", "put", "([BIIIJ)V"⟩ : MethodName) method_2_code 8 none ({ frames := 0, cells := 0, slots := 0, locals := 0 } : Room) #[(.ref t1), (.int q1), (.int q2), (.int q3), (.long q4)] h0 n0 0 0 (fun v h => v = none ∧ ∃ g, Arf Z h t1 .byte 14 g ∧ (k < n → (g (i + k)).toInt = own_B V n k) ∧ ∀ j, ¬ (k < n ∧ j = i + k) → g j = f j) := by
  refine Con.of_body (ls := #[.val (.ref t1), .val (.int q1), .val (.int q2), .val (.int q3), .val (.long q4), .second, .unset, .unset]) pn_com_example_edgesheet_edgesheet_core_ByteSourceReadVarintPinLaw (fun m => by first | (simp [entryFrame, mkF, argsToLocals, Value.category]; done) | rfl) Z0 (fun p e s m below meth c T (X : Here p l e ({ frames := 0, cells := 0, slots := 0, locals := 0 } : Room) s m #[(.ref t1), (.int q1), (.int q2), (.int q3), (.long q4)] below meth c Z "com/example/edgesheet/edgesheet/core/ByteSourceReadVarintPinLaw" "put" method_2_code 8 none n0 T h0 0 0) => ?_)
  refine r_iloadN X (pc' := 1) d_put_0 rfl rfl ?_
  refine r_iloadN X (pc' := 2) d_put_1 rfl rfl ?_
  refine r_icmp X (pc' := 46) (pc2 := 5) d_put_2 (by decide) (by decide) rfl (a := q2.toInt) (b := q3.toInt) rfl rfl (fun (cq1 : q3.toInt ≤ q2.toInt) => ?_) (fun (cq1 : ¬ (q3.toInt ≤ q2.toInt)) => ?_)
  · exact r_ret X d_put_46 ⟨rfl, f, A0, fun q => by omega, fun j _ => rfl⟩ (by decide) (by decide)
  · obtain ⟨sj, hsj⟩ : ∃ y, (7 : Int32) * q2 = y := ⟨_, rfl⟩
    have ksj : sj.toInt = ((7 * k : Nat) : Int) := by rw [← hsj, Jvm.Kit.i32_mul (by rw [hq2, show (7 : Int32).toInt = 7 from rfl]; omega) (by rw [hq2, show (7 : Int32).toInt = 7 from rfl]; omega), hq2]; rfl
    have kgr := own_grp q4 V hV sj k ksj hk
    obtain ⟨gr, hgr⟩ : ∃ y, ((XT.ushrL q4 sj) &&& (127 : Int64)).toInt32 = y := ⟨_, rfl⟩
    rw [hgr] at kgr
    have gb := own_g_lt V k
    obtain ⟨n1, hn1'⟩ : ∃ y, q3 - (1 : Int32) = y := ⟨_, rfl⟩
    have kn1 : n1.toInt = (n : Int) - 1 := by rw [← hn1']; exact n_sub hq3 rfl (by omega) (by omega)
    obtain ⟨sx, hsx⟩ : ∃ y, q1 + q2 = y := ⟨_, rfl⟩
    have ksx : sx.toInt = ((i + k : Nat) : Int) := by rw [← hsx, n_add hq1 hq2 (by omega) (by omega)]; omega
    refine r_lload X (pc' := 7) d_put_5 rfl rfl ?_
    refine r_bipush X (pc' := 9) (v := (7 : Int32)) d_put_7 rfl rfl ?_
    refine r_iloadN X (pc' := 10) d_put_9 rfl rfl ?_
    refine r_imul X (pc' := 11) (z := sj) d_put_10 hsj rfl ?_
    refine r_lushr X (pc' := 12) (z := (XT.ushrL q4 sj)) d_put_11 rfl rfl ?_
    refine r_ldc2J X (pc' := 15) (v := (127 : Int64)) d_put_12 (wd hw 6 rfl) rfl ?_
    refine r_land X (pc' := 16) (z := ((XT.ushrL q4 sj) &&& (127 : Int64))) d_put_15 rfl rfl ?_
    refine r_l2i X (pc' := 17) (z := gr) d_put_16 hgr rfl ?_
    refine r_istore X (pc' := 19) (ls' := #[.val (.ref t1), .val (.int q1), .val (.int q2), .val (.int q3), .val (.long q4), .second, .val (.int gr), .unset]) d_put_17 rfl rfl ?_
    refine r_iloadN X (pc' := 20) d_put_19 rfl rfl ?_
    refine r_iloadN X (pc' := 21) d_put_20 rfl rfl ?_
    refine r_iconst X (pc' := 22) (v := (1 : Int32)) d_put_21 rfl rfl ?_
    refine r_isub X (pc' := 23) (z := n1) d_put_22 hn1' rfl ?_
    refine r_icmp X (pc' := 32) (pc2 := 26) d_put_23 (by decide) (by decide) rfl (a := q2.toInt) (b := n1.toInt) rfl rfl (fun (cq2 : n1.toInt ≤ q2.toInt) => ?_) (fun (cq2 : ¬ (n1.toInt ≤ q2.toInt)) => ?_)
    · refine r_iconst X (pc' := 33) (v := (0 : Int32)) d_put_32 rfl rfl ?_
      refine r_istore X (pc' := 35) (ls' := #[.val (.ref t1), .val (.int q1), .val (.int q2), .val (.int q3), .val (.long q4), .second, .val (.int gr), .val (.int (0 : Int32))]) d_put_33 rfl rfl ?_
      refine r_aloadN X (pc' := 36) d_put_35 rfl rfl ?_
      refine r_iloadN X (pc' := 37) d_put_36 rfl rfl ?_
      refine r_iloadN X (pc' := 38) d_put_37 rfl rfl ?_
      refine r_iadd X (pc' := 39) (z := sx) d_put_38 hsx rfl ?_
      refine r_iload X (pc' := 41) d_put_39 rfl rfl ?_
      refine r_iload X (pc' := 43) d_put_41 rfl rfl ?_
      refine r_ior X (pc' := 44) (z := gr) d_put_43 (own_or0 gr) rfl ?_
      refine r_i2b X (pc' := 45) (z := (own_b gr)) d_put_44 rfl rfl ?_
      refine r_bastore X (pc' := 46) (i := (i + k)) (v := (own_b gr)) d_put_45 A0 ksx (by omega) g1 (own_nb _) rfl (fun T3 h4 X5 W6 A7 => ?_)
      exact r_ret X5 d_put_46 ⟨rfl, _, A7, fun q => (by rw [upd_same, own_bi]; unfold own_B; rw [if_neg (by omega)]; omega), fun j hj => upd_ne _ _ (by omega)⟩ (by decide) (by decide)
    · have ko := own_or gr (by omega) (by omega)
      refine r_sipush X (pc' := 29) (v := (128 : Int32)) d_put_26 rfl rfl ?_
      refine r_goto X (pc' := 33) d_put_29 (by decide) (by decide) ?_
      refine r_istore X (pc' := 35) (ls' := #[.val (.ref t1), .val (.int q1), .val (.int q2), .val (.int q3), .val (.long q4), .second, .val (.int gr), .val (.int (128 : Int32))]) d_put_33 rfl rfl ?_
      refine r_aloadN X (pc' := 36) d_put_35 rfl rfl ?_
      refine r_iloadN X (pc' := 37) d_put_36 rfl rfl ?_
      refine r_iloadN X (pc' := 38) d_put_37 rfl rfl ?_
      refine r_iadd X (pc' := 39) (z := sx) d_put_38 hsx rfl ?_
      refine r_iload X (pc' := 41) d_put_39 rfl rfl ?_
      refine r_iload X (pc' := 43) d_put_41 rfl rfl ?_
      refine r_ior X (pc' := 44) (z := (gr ||| (128 : Int32))) d_put_43 rfl rfl ?_
      refine r_i2b X (pc' := 45) (z := (own_b (gr ||| (128 : Int32)))) d_put_44 rfl rfl ?_
      refine r_bastore X (pc' := 46) (i := (i + k)) (v := (own_b (gr ||| (128 : Int32)))) d_put_45 A0 ksx (by omega) g1 (own_nb _) rfl (fun T8 h9 X10 W11 A12 => ?_)
      exact r_ret X10 d_put_46 ⟨rfl, _, A12, fun q => (by rw [upd_same, own_bi]; unfold own_B; rw [if_pos (by omega)]; omega), fun j hj => upd_ne _ _ (by omega)⟩ (by decide) (by decide)
set_option maxRecDepth 65536 in
set_option maxHeartbeats 40000000 in
theorem con_init (l : Launch) (Z : State) (a0 : Array Value) (hw : ∀ d ∈ tables_1, d.before a0 Z = true) (a1 : Addr) (h0 : Heap) (n0 : Nat) (Z0 : n0 ≤ h0.size)  : Con l Z (⟨"com/example/edgesheet/edgesheet/core/ByteSource", "<init>", "()V"⟩ : MethodName) prog_6_method_1_code 1 none ({ frames := 1, cells := 0, slots := 0, locals := 12 } : Room) #[(.ref a1)] h0 n0 0 0 (fun v h => v = none ∧ h0 = h) := by
  refine Con.of_body (ls := #[.val (.ref a1)]) pn_com_example_edgesheet_edgesheet_core_ByteSource (fun m => by first | (simp [entryFrame, mkF, argsToLocals, Value.category]; done) | rfl) Z0 (fun p e s m below meth c T (X : Here p l e ({ frames := 1, cells := 0, slots := 0, locals := 12 } : Room) s m #[(.ref a1)] below meth c Z "com/example/edgesheet/edgesheet/core/ByteSource" "<init>" prog_6_method_1_code 1 none n0 T h0 0 0) => ?_)
  refine r_aloadN X (pc' := 1) d_init_ByteSource_0 rfl rfl ?_
  refine r_initObject X (pc' := 4) (W := 0) d_init_ByteSource_1 (wd hw 13 rfl) (wd hw 14 rfl) (wd hw 15 rfl) rfl (by decide) rfl (by decide) rfl (fun T13 X14 => ?_)
  show Run p e below _ _ (mkF m 4 #[.val (.ref a1)] [])
  exact r_ret X14 d_init_ByteSource_4 ⟨rfl, rfl⟩ (by decide) (by decide)
set_option maxRecDepth 65536 in
set_option maxHeartbeats 40000000 in
theorem con_reset (l : Launch) (Z : State) (a0 : Array Value) (hw : ∀ d ∈ tables_1, d.before a0 Z = true) (a1 t1 : Addr) (q1 : Int32) (u1 u2 : Value) (h0 : Heap) (n0 : Nat) (Z0 : n0 ≤ h0.size) (E1 : Exa Z h0 a1 "com/example/edgesheet/edgesheet/core/ByteSource") (F1 : Fld Z h0 a1 "com/example/edgesheet/edgesheet/core/ByteSource" "bytes" "[B" u1) (F2 : Fld Z h0 a1 "com/example/edgesheet/edgesheet/core/ByteSource" "position" "I" u2) (g1 : n0 ≤ a1) : Con l Z (⟨"com/example/edgesheet/edgesheet/core/ByteSource", "reset", "([BI)V"⟩ : MethodName) prog_6_method_2_code 3 none ({ frames := 0, cells := 0, slots := 0, locals := 0 } : Room) #[(.ref a1), (.ref t1), (.int q1)] h0 n0 0 0 (fun v h => v = none ∧ Keep h0 h [a1] ∧ Fld Z h a1 "com/example/edgesheet/edgesheet/core/ByteSource" "bytes" "[B" (.ref t1) ∧ Fld Z h a1 "com/example/edgesheet/edgesheet/core/ByteSource" "position" "I" (.int q1)) := by
  refine Con.of_body (ls := #[.val (.ref a1), .val (.ref t1), .val (.int q1)]) pn_com_example_edgesheet_edgesheet_core_ByteSource (fun m => by first | (simp [entryFrame, mkF, argsToLocals, Value.category]; done) | rfl) Z0 (fun p e s m below meth c T (X : Here p l e ({ frames := 0, cells := 0, slots := 0, locals := 0 } : Room) s m #[(.ref a1), (.ref t1), (.int q1)] below meth c Z "com/example/edgesheet/edgesheet/core/ByteSource" "reset" prog_6_method_2_code 3 none n0 T h0 0 0) => ?_)
  have K0 := Keep.refl h0 [a1]
  refine r_aloadN X (pc' := 1) d_reset_0 rfl rfl ?_
  refine r_aloadN X (pc' := 2) d_reset_1 rfl rfl ?_
  refine r_putfield X (pc' := 5) (ty := (.array .byte)) d_reset_2 (wd hw 21 rfl) F1 E1 (Or.inl (wd hw 22 rfl)) (wd hw 8 rfl) (by decide) rfl rfl g1 rfl (fun T15 h16 X17 W18 => ?_)
  have f19 := E1.wr W18
  have f20 := F1.same W18
  have f21 := F2.other W18 (Or.inr (slot_ne (C := "com/example/edgesheet/edgesheet/core/ByteSource") (Or.inl (wd hw 24 rfl)) (Or.inl (wd hw 22 rfl)) (by decide) (t := .int) (t' := (.array .byte)) (by decide) (by decide)))
  have K22 := K0.wr W18 (Or.inl (List.mem_of_getElem? (i := 0) rfl))
  refine r_aloadN X17 (pc' := 6) d_reset_5 rfl rfl ?_
  refine r_iloadN X17 (pc' := 7) d_reset_6 rfl rfl ?_
  refine r_putfield X17 (pc' := 10) (ty := .int) d_reset_7 (wd hw 23 rfl) f21 f19 (Or.inl (wd hw 24 rfl)) (wd hw 8 rfl) (by decide) rfl rfl g1 rfl (fun T23 h24 X25 W26 => ?_)
  have f27 := f19.wr W26
  have f28 := f20.other W26 (Or.inr (slot_ne (C := "com/example/edgesheet/edgesheet/core/ByteSource") (Or.inl (wd hw 22 rfl)) (Or.inl (wd hw 24 rfl)) (by decide) (t := (.array .byte)) (t' := .int) (by decide) (by decide)))
  have f29 := f21.same W26
  have K30 := K22.wr W26 (Or.inl (List.mem_of_getElem? (i := 0) rfl))
  exact r_ret X25 d_reset_10 ⟨rfl, K30, f28, f29⟩ (by decide) (by decide)
set_option maxRecDepth 65536 in
set_option maxHeartbeats 40000000 in
theorem con_pos (l : Launch) (Z : State) (a0 : Array Value) (hw : ∀ d ∈ tables_1, d.before a0 Z = true) (a1 : Addr) (q1 : Int32) (h0 : Heap) (n0 : Nat) (Z0 : n0 ≤ h0.size) (F2 : Fld Z h0 a1 "com/example/edgesheet/edgesheet/core/ByteSource" "position" "I" (.int q1)) : Con l Z (⟨"com/example/edgesheet/edgesheet/core/ByteSource", "position", "()I"⟩ : MethodName) prog_6_method_4_code 1 (some .int) ({ frames := 0, cells := 0, slots := 0, locals := 0 } : Room) #[(.ref a1)] h0 n0 0 0 (fun v h => v = some (.int q1) ∧ h0 = h) := by
  refine Con.of_body (ls := #[.val (.ref a1)]) pn_com_example_edgesheet_edgesheet_core_ByteSource (fun m => by first | (simp [entryFrame, mkF, argsToLocals, Value.category]; done) | rfl) Z0 (fun p e s m below meth c T (X : Here p l e ({ frames := 0, cells := 0, slots := 0, locals := 0 } : Room) s m #[(.ref a1)] below meth c Z "com/example/edgesheet/edgesheet/core/ByteSource" "position" prog_6_method_4_code 1 (some .int) n0 T h0 0 0) => ?_)
  refine r_aloadN X (pc' := 1) d_position_0 rfl rfl ?_
  refine r_getfield X (pc' := 4) d_position_1 (wd hw 23 rfl) F2 rfl (fun T31 X32 => ?_)
  exact r_retI X32 d_position_4 ⟨rfl, rfl⟩ (by decide) (by decide)
set_option maxRecDepth 65536 in
set_option maxHeartbeats 40000000 in
theorem con_read (l : Launch) (Z : State) (a0 : Array Value) (hw : ∀ d ∈ tables_1, d.before a0 Z = true) (a1 t1 : Addr) (q0 : Int32) (f : Nat → Int32) (i n V : Nat) (h0 : Heap) (n0 : Nat) (Z0 : n0 ≤ h0.size) (E0 : Exa Z h0 a1 "com/example/edgesheet/edgesheet/core/ByteSource") (F0 : Fld Z h0 a1 "com/example/edgesheet/edgesheet/core/ByteSource" "bytes" "[B" (.ref t1)) (G0 : Fld Z h0 a1 "com/example/edgesheet/edgesheet/core/ByteSource" "position" "I" (.int q0)) (A0 : Arf Z h0 t1 .byte 14 f) (ne0 : t1 ≠ a1) (g1 : n0 ≤ a1) (hq0 : q0.toInt = i) (hi : i ≤ 3) (hn1 : 1 ≤ n) (hn : n ≤ 10) (hVb : V < 2 ^ 64) (M : own_M V i n f 10) : Con l Z (⟨"com/example/edgesheet/edgesheet/core/ByteSource", "readVarint", "()J"⟩ : MethodName) prog_6_method_7_code 5 (some .long) ({ frames := 0, cells := 0, slots := 0, locals := 0 } : Room) #[(.ref a1)] h0 n0 0 0 (fun v h => ∃ (z : Int64) (q : Int32), v = some (.long z) ∧ Keep h0 h [a1] ∧ z.toBitVec.toNat = V % 2 ^ (7 * n) ∧ Fld Z h a1 "com/example/edgesheet/edgesheet/core/ByteSource" "position" "I" (.int q) ∧ q.toInt = ((i + n : Nat) : Int)) := by
  refine Con.of_body (ls := #[.val (.ref a1), .unset, .unset, .unset, .unset]) pn_com_example_edgesheet_edgesheet_core_ByteSource (fun m => by first | (simp [entryFrame, mkF, argsToLocals, Value.category]; done) | rfl) Z0 (fun p e s m below meth c T (X : Here p l e ({ frames := 0, cells := 0, slots := 0, locals := 0 } : Room) s m #[(.ref a1)] below meth c Z "com/example/edgesheet/edgesheet/core/ByteSource" "readVarint" prog_6_method_7_code 5 (some .long) n0 T h0 0 0) => ?_)
  have LL : ∀ (d k : Nat) (q sh : Int32) (u : Int64) (s4 : Slot) (T : State) (h : Heap), k + 1 + d = n → q.toInt = ((i + k : Nat) : Int) → sh.toInt = ((7 * k : Nat) : Int) → u.toBitVec.toNat = V % 2 ^ (7 * k) → (s4 = .unset ∨ ∃ w, s4 = .val (.int w)) → Here p l e ({ frames := 0, cells := 0, slots := 0, locals := 0 } : Room) s m #[(.ref a1)] below meth c Z "com/example/edgesheet/edgesheet/core/ByteSource" "readVarint" prog_6_method_7_code 5 (some .long) n0 T h 0 0 → Keep h0 h [a1] → Exa Z h a1 "com/example/edgesheet/edgesheet/core/ByteSource" → Fld Z h a1 "com/example/edgesheet/edgesheet/core/ByteSource" "bytes" "[B" (.ref t1) → Fld Z h a1 "com/example/edgesheet/edgesheet/core/ByteSource" "position" "I" (.int q) → Arf Z h t1 .byte 14 f → Run p e below (Fnl s n0 0 0 (fun v h => ∃ (z : Int64) (q : Int32), v = some (.long z) ∧ Keep h0 h [a1] ∧ z.toBitVec.toNat = V % 2 ^ (7 * n) ∧ Fld Z h a1 "com/example/edgesheet/edgesheet/core/ByteSource" "position" "I" (.int q) ∧ q.toInt = ((i + n : Nat) : Int))) T (mkF m 4 #[.val (.ref a1), .val (.long u), .second, .val (.int sh), s4] []) := by
    intro d
    induction d with
    | zero =>
      intro k q sh u s4 T h hd hq hsh hu hs4 X K E F G A
      have hM := M k (by omega) (by omega)
      unfold own_B at hM
      rw [if_neg (by omega)] at hM
      have gl := own_g_lt V k
      obtain ⟨q2, hq2⟩ : ∃ y, q + (1 : Int32) = y := ⟨_, rfl⟩
      have kq2 : q2.toInt = ((i + (k + 1) : Nat) : Int) := by rw [← hq2, n_add hq (show (1 : Int32).toInt = 1 from rfl) (by omega) (by omega)]; omega
      obtain ⟨sh2, hsh2⟩ : ∃ y, sh + (7 : Int32) = y := ⟨_, rfl⟩
      have ksh2 : sh2.toInt = ((7 * (k + 1) : Nat) : Int) := by rw [← hsh2, n_add hsh (show (7 : Int32).toInt = 7 from rfl) (by omega) (by omega)]; omega
      have kac := own_acc u V hVb (f (i + k)) sh k hu hsh (by omega) (by omega)
      obtain ⟨u2, hu2⟩ : ∃ y, (u ||| (((f (i + k)) &&& (127 : Int32)).toInt64 <<< (sh.toInt64 &&& 63))) = y := ⟨_, rfl⟩
      rw [hu2] at kac
      rcases hs4 with rfl | ⟨w4, rfl⟩
      · refine r_aloadN X (pc' := 5) d_readVarint_4 rfl rfl ?_
        refine r_getfield X (pc' := 8) d_readVarint_5 (wd hw 21 rfl) F rfl (fun T33 X34 => ?_)
        refine r_aloadN X34 (pc' := 9) d_readVarint_8 rfl rfl ?_
        refine r_dup X34 (pc' := 10) d_readVarint_9 rfl rfl ?_
        refine r_getfield X34 (pc' := 13) d_readVarint_10 (wd hw 23 rfl) G rfl (fun T35 X36 => ?_)
        refine r_dupX1 X36 (pc' := 14) d_readVarint_13 rfl rfl rfl ?_
        refine r_iconst X36 (pc' := 15) (v := (1 : Int32)) d_readVarint_14 rfl rfl ?_
        refine r_iadd X36 (pc' := 16) (z := q2) d_readVarint_15 hq2 rfl ?_
        refine r_putfield X36 (pc' := 19) (ty := .int) d_readVarint_16 (wd hw 23 rfl) G E (Or.inl (wd hw 24 rfl)) (wd hw 8 rfl) (by decide) rfl rfl g1 rfl (fun T37 h38 X39 W40 => ?_)
        have f41 := E.wr W40
        have f42 := F.other W40 (Or.inr (slot_ne (C := "com/example/edgesheet/edgesheet/core/ByteSource") (Or.inl (wd hw 22 rfl)) (Or.inl (wd hw 24 rfl)) (by decide) (t := (.array .byte)) (t' := .int) (by decide) (by decide)))
        have f43 := G.same W40
        have f44 := A.other W40 ne0
        have K45 := K.wr W40 (Or.inl (List.mem_of_getElem? (i := 0) rfl))
        refine r_baload X39 (pc' := 20) (i := (i + k)) (v := (f (i + k))) d_readVarint_19 f44 hq (by omega) rfl rfl ?_
        refine r_istore X39 (pc' := 22) (ls' := #[.val (.ref a1), .val (.long u), .second, .val (.int sh), .val (.int (f (i + k)))]) d_readVarint_20 rfl rfl ?_
        refine r_lloadN X39 (pc' := 23) d_readVarint_22 rfl rfl ?_
        refine r_iload X39 (pc' := 25) d_readVarint_23 rfl rfl ?_
        refine r_bipush X39 (pc' := 27) (v := (127 : Int32)) d_readVarint_25 rfl rfl ?_
        refine r_iand X39 (pc' := 28) (z := ((f (i + k)) &&& (127 : Int32))) d_readVarint_27 rfl rfl ?_
        refine r_i2l X39 (pc' := 29) (z := (((f (i + k)) &&& (127 : Int32)).toInt64)) d_readVarint_28 rfl rfl ?_
        refine r_iloadN X39 (pc' := 30) d_readVarint_29 rfl rfl ?_
        refine r_lshl X39 (pc' := 31) (z := ((((f (i + k)) &&& (127 : Int32)).toInt64) <<< (sh.toInt64 &&& 63))) d_readVarint_30 rfl rfl ?_
        refine r_lor X39 (pc' := 32) (z := u2) d_readVarint_31 hu2 rfl ?_
        refine r_lstoreN X39 (pc' := 33) (ls' := #[.val (.ref a1), .val (.long u2), .second, .val (.int sh), .val (.int (f (i + k)))]) d_readVarint_32 rfl rfl ?_
        refine r_iinc X39 (pc' := 36) (z := sh2) (ls' := #[.val (.ref a1), .val (.long u2), .second, .val (.int sh2), .val (.int (f (i + k)))]) d_readVarint_33 rfl hsh2 rfl rfl ?_
        refine r_iload X39 (pc' := 38) d_readVarint_36 rfl rfl ?_
        refine r_ifN X39 (pc2 := 41) d_readVarint_38 (by decide) rfl (a := (f (i + k)).toInt) (b := 0) rfl rfl (show ¬ ((f (i + k)).toInt < 0) from (by omega)) ?_
        refine r_lloadN X39 (pc' := 42) d_readVarint_41 rfl rfl ?_
        exact r_retL X39 d_readVarint_42 ⟨_, q2, rfl, K45, (by rw [kac, show k + 1 = n by omega]), f43, (by rw [kq2, show k + 1 = n by omega])⟩ (by decide) (by decide)
      · refine r_aloadN X (pc' := 5) d_readVarint_4 rfl rfl ?_
        refine r_getfield X (pc' := 8) d_readVarint_5 (wd hw 21 rfl) F rfl (fun T46 X47 => ?_)
        refine r_aloadN X47 (pc' := 9) d_readVarint_8 rfl rfl ?_
        refine r_dup X47 (pc' := 10) d_readVarint_9 rfl rfl ?_
        refine r_getfield X47 (pc' := 13) d_readVarint_10 (wd hw 23 rfl) G rfl (fun T48 X49 => ?_)
        refine r_dupX1 X49 (pc' := 14) d_readVarint_13 rfl rfl rfl ?_
        refine r_iconst X49 (pc' := 15) (v := (1 : Int32)) d_readVarint_14 rfl rfl ?_
        refine r_iadd X49 (pc' := 16) (z := q2) d_readVarint_15 hq2 rfl ?_
        refine r_putfield X49 (pc' := 19) (ty := .int) d_readVarint_16 (wd hw 23 rfl) G E (Or.inl (wd hw 24 rfl)) (wd hw 8 rfl) (by decide) rfl rfl g1 rfl (fun T50 h51 X52 W53 => ?_)
        have f54 := E.wr W53
        have f55 := F.other W53 (Or.inr (slot_ne (C := "com/example/edgesheet/edgesheet/core/ByteSource") (Or.inl (wd hw 22 rfl)) (Or.inl (wd hw 24 rfl)) (by decide) (t := (.array .byte)) (t' := .int) (by decide) (by decide)))
        have f56 := G.same W53
        have f57 := A.other W53 ne0
        have K58 := K.wr W53 (Or.inl (List.mem_of_getElem? (i := 0) rfl))
        refine r_baload X52 (pc' := 20) (i := (i + k)) (v := (f (i + k))) d_readVarint_19 f57 hq (by omega) rfl rfl ?_
        refine r_istore X52 (pc' := 22) (ls' := #[.val (.ref a1), .val (.long u), .second, .val (.int sh), .val (.int (f (i + k)))]) d_readVarint_20 rfl rfl ?_
        refine r_lloadN X52 (pc' := 23) d_readVarint_22 rfl rfl ?_
        refine r_iload X52 (pc' := 25) d_readVarint_23 rfl rfl ?_
        refine r_bipush X52 (pc' := 27) (v := (127 : Int32)) d_readVarint_25 rfl rfl ?_
        refine r_iand X52 (pc' := 28) (z := ((f (i + k)) &&& (127 : Int32))) d_readVarint_27 rfl rfl ?_
        refine r_i2l X52 (pc' := 29) (z := (((f (i + k)) &&& (127 : Int32)).toInt64)) d_readVarint_28 rfl rfl ?_
        refine r_iloadN X52 (pc' := 30) d_readVarint_29 rfl rfl ?_
        refine r_lshl X52 (pc' := 31) (z := ((((f (i + k)) &&& (127 : Int32)).toInt64) <<< (sh.toInt64 &&& 63))) d_readVarint_30 rfl rfl ?_
        refine r_lor X52 (pc' := 32) (z := u2) d_readVarint_31 hu2 rfl ?_
        refine r_lstoreN X52 (pc' := 33) (ls' := #[.val (.ref a1), .val (.long u2), .second, .val (.int sh), .val (.int (f (i + k)))]) d_readVarint_32 rfl rfl ?_
        refine r_iinc X52 (pc' := 36) (z := sh2) (ls' := #[.val (.ref a1), .val (.long u2), .second, .val (.int sh2), .val (.int (f (i + k)))]) d_readVarint_33 rfl hsh2 rfl rfl ?_
        refine r_iload X52 (pc' := 38) d_readVarint_36 rfl rfl ?_
        refine r_ifN X52 (pc2 := 41) d_readVarint_38 (by decide) rfl (a := (f (i + k)).toInt) (b := 0) rfl rfl (show ¬ ((f (i + k)).toInt < 0) from (by omega)) ?_
        refine r_lloadN X52 (pc' := 42) d_readVarint_41 rfl rfl ?_
        exact r_retL X52 d_readVarint_42 ⟨_, q2, rfl, K58, (by rw [kac, show k + 1 = n by omega]), f56, (by rw [kq2, show k + 1 = n by omega])⟩ (by decide) (by decide)
    | succ d ih =>
      intro k q sh u s4 T h hd hq hsh hu hs4 X K E F G A
      have hM := M k (by omega) (by omega)
      unfold own_B at hM
      rw [if_pos (by omega)] at hM
      have gl := own_g_lt V k
      obtain ⟨q2, hq2⟩ : ∃ y, q + (1 : Int32) = y := ⟨_, rfl⟩
      have kq2 : q2.toInt = ((i + (k + 1) : Nat) : Int) := by rw [← hq2, n_add hq (show (1 : Int32).toInt = 1 from rfl) (by omega) (by omega)]; omega
      obtain ⟨sh2, hsh2⟩ : ∃ y, sh + (7 : Int32) = y := ⟨_, rfl⟩
      have ksh2 : sh2.toInt = ((7 * (k + 1) : Nat) : Int) := by rw [← hsh2, n_add hsh (show (7 : Int32).toInt = 7 from rfl) (by omega) (by omega)]; omega
      have kac := own_acc u V hVb (f (i + k)) sh k hu hsh (by omega) (by omega)
      obtain ⟨u2, hu2⟩ : ∃ y, (u ||| (((f (i + k)) &&& (127 : Int32)).toInt64 <<< (sh.toInt64 &&& 63))) = y := ⟨_, rfl⟩
      rw [hu2] at kac
      rcases hs4 with rfl | ⟨w4, rfl⟩
      · refine r_aloadN X (pc' := 5) d_readVarint_4 rfl rfl ?_
        refine r_getfield X (pc' := 8) d_readVarint_5 (wd hw 21 rfl) F rfl (fun T59 X60 => ?_)
        refine r_aloadN X60 (pc' := 9) d_readVarint_8 rfl rfl ?_
        refine r_dup X60 (pc' := 10) d_readVarint_9 rfl rfl ?_
        refine r_getfield X60 (pc' := 13) d_readVarint_10 (wd hw 23 rfl) G rfl (fun T61 X62 => ?_)
        refine r_dupX1 X62 (pc' := 14) d_readVarint_13 rfl rfl rfl ?_
        refine r_iconst X62 (pc' := 15) (v := (1 : Int32)) d_readVarint_14 rfl rfl ?_
        refine r_iadd X62 (pc' := 16) (z := q2) d_readVarint_15 hq2 rfl ?_
        refine r_putfield X62 (pc' := 19) (ty := .int) d_readVarint_16 (wd hw 23 rfl) G E (Or.inl (wd hw 24 rfl)) (wd hw 8 rfl) (by decide) rfl rfl g1 rfl (fun T63 h64 X65 W66 => ?_)
        have f67 := E.wr W66
        have f68 := F.other W66 (Or.inr (slot_ne (C := "com/example/edgesheet/edgesheet/core/ByteSource") (Or.inl (wd hw 22 rfl)) (Or.inl (wd hw 24 rfl)) (by decide) (t := (.array .byte)) (t' := .int) (by decide) (by decide)))
        have f69 := G.same W66
        have f70 := A.other W66 ne0
        have K71 := K.wr W66 (Or.inl (List.mem_of_getElem? (i := 0) rfl))
        refine r_baload X65 (pc' := 20) (i := (i + k)) (v := (f (i + k))) d_readVarint_19 f70 hq (by omega) rfl rfl ?_
        refine r_istore X65 (pc' := 22) (ls' := #[.val (.ref a1), .val (.long u), .second, .val (.int sh), .val (.int (f (i + k)))]) d_readVarint_20 rfl rfl ?_
        refine r_lloadN X65 (pc' := 23) d_readVarint_22 rfl rfl ?_
        refine r_iload X65 (pc' := 25) d_readVarint_23 rfl rfl ?_
        refine r_bipush X65 (pc' := 27) (v := (127 : Int32)) d_readVarint_25 rfl rfl ?_
        refine r_iand X65 (pc' := 28) (z := ((f (i + k)) &&& (127 : Int32))) d_readVarint_27 rfl rfl ?_
        refine r_i2l X65 (pc' := 29) (z := (((f (i + k)) &&& (127 : Int32)).toInt64)) d_readVarint_28 rfl rfl ?_
        refine r_iloadN X65 (pc' := 30) d_readVarint_29 rfl rfl ?_
        refine r_lshl X65 (pc' := 31) (z := ((((f (i + k)) &&& (127 : Int32)).toInt64) <<< (sh.toInt64 &&& 63))) d_readVarint_30 rfl rfl ?_
        refine r_lor X65 (pc' := 32) (z := u2) d_readVarint_31 hu2 rfl ?_
        refine r_lstoreN X65 (pc' := 33) (ls' := #[.val (.ref a1), .val (.long u2), .second, .val (.int sh), .val (.int (f (i + k)))]) d_readVarint_32 rfl rfl ?_
        refine r_iinc X65 (pc' := 36) (z := sh2) (ls' := #[.val (.ref a1), .val (.long u2), .second, .val (.int sh2), .val (.int (f (i + k)))]) d_readVarint_33 rfl hsh2 rfl rfl ?_
        refine r_iload X65 (pc' := 38) d_readVarint_36 rfl rfl ?_
        refine r_ifY X65 (pc' := 4) d_readVarint_38 (by decide) (by decide) (a := (f (i + k)).toInt) (b := 0) rfl rfl (show (f (i + k)).toInt < 0 from (by omega)) ?_
        exact ih (k + 1) q2 sh2 u2 _ _ _ (by omega) kq2 ksh2 kac (Or.inr ⟨_, rfl⟩) X65 K71 f67 f68 f69 f70
      · refine r_aloadN X (pc' := 5) d_readVarint_4 rfl rfl ?_
        refine r_getfield X (pc' := 8) d_readVarint_5 (wd hw 21 rfl) F rfl (fun T72 X73 => ?_)
        refine r_aloadN X73 (pc' := 9) d_readVarint_8 rfl rfl ?_
        refine r_dup X73 (pc' := 10) d_readVarint_9 rfl rfl ?_
        refine r_getfield X73 (pc' := 13) d_readVarint_10 (wd hw 23 rfl) G rfl (fun T74 X75 => ?_)
        refine r_dupX1 X75 (pc' := 14) d_readVarint_13 rfl rfl rfl ?_
        refine r_iconst X75 (pc' := 15) (v := (1 : Int32)) d_readVarint_14 rfl rfl ?_
        refine r_iadd X75 (pc' := 16) (z := q2) d_readVarint_15 hq2 rfl ?_
        refine r_putfield X75 (pc' := 19) (ty := .int) d_readVarint_16 (wd hw 23 rfl) G E (Or.inl (wd hw 24 rfl)) (wd hw 8 rfl) (by decide) rfl rfl g1 rfl (fun T76 h77 X78 W79 => ?_)
        have f80 := E.wr W79
        have f81 := F.other W79 (Or.inr (slot_ne (C := "com/example/edgesheet/edgesheet/core/ByteSource") (Or.inl (wd hw 22 rfl)) (Or.inl (wd hw 24 rfl)) (by decide) (t := (.array .byte)) (t' := .int) (by decide) (by decide)))
        have f82 := G.same W79
        have f83 := A.other W79 ne0
        have K84 := K.wr W79 (Or.inl (List.mem_of_getElem? (i := 0) rfl))
        refine r_baload X78 (pc' := 20) (i := (i + k)) (v := (f (i + k))) d_readVarint_19 f83 hq (by omega) rfl rfl ?_
        refine r_istore X78 (pc' := 22) (ls' := #[.val (.ref a1), .val (.long u), .second, .val (.int sh), .val (.int (f (i + k)))]) d_readVarint_20 rfl rfl ?_
        refine r_lloadN X78 (pc' := 23) d_readVarint_22 rfl rfl ?_
        refine r_iload X78 (pc' := 25) d_readVarint_23 rfl rfl ?_
        refine r_bipush X78 (pc' := 27) (v := (127 : Int32)) d_readVarint_25 rfl rfl ?_
        refine r_iand X78 (pc' := 28) (z := ((f (i + k)) &&& (127 : Int32))) d_readVarint_27 rfl rfl ?_
        refine r_i2l X78 (pc' := 29) (z := (((f (i + k)) &&& (127 : Int32)).toInt64)) d_readVarint_28 rfl rfl ?_
        refine r_iloadN X78 (pc' := 30) d_readVarint_29 rfl rfl ?_
        refine r_lshl X78 (pc' := 31) (z := ((((f (i + k)) &&& (127 : Int32)).toInt64) <<< (sh.toInt64 &&& 63))) d_readVarint_30 rfl rfl ?_
        refine r_lor X78 (pc' := 32) (z := u2) d_readVarint_31 hu2 rfl ?_
        refine r_lstoreN X78 (pc' := 33) (ls' := #[.val (.ref a1), .val (.long u2), .second, .val (.int sh), .val (.int (f (i + k)))]) d_readVarint_32 rfl rfl ?_
        refine r_iinc X78 (pc' := 36) (z := sh2) (ls' := #[.val (.ref a1), .val (.long u2), .second, .val (.int sh2), .val (.int (f (i + k)))]) d_readVarint_33 rfl hsh2 rfl rfl ?_
        refine r_iload X78 (pc' := 38) d_readVarint_36 rfl rfl ?_
        refine r_ifY X78 (pc' := 4) d_readVarint_38 (by decide) (by decide) (a := (f (i + k)).toInt) (b := 0) rfl rfl (show (f (i + k)).toInt < 0 from (by omega)) ?_
        exact ih (k + 1) q2 sh2 u2 _ _ _ (by omega) kq2 ksh2 kac (Or.inr ⟨_, rfl⟩) X78 K84 f80 f81 f82 f83
  refine r_lconst X (pc' := 1) (v := (0 : Int64)) d_readVarint_0 rfl rfl ?_
  refine r_lstoreN X (pc' := 2) (ls' := #[.val (.ref a1), .val (.long (0 : Int64)), .second, .unset, .unset]) d_readVarint_1 rfl rfl ?_
  refine r_iconst X (pc' := 3) (v := (0 : Int32)) d_readVarint_2 rfl rfl ?_
  refine r_istoreN X (pc' := 4) (ls' := #[.val (.ref a1), .val (.long (0 : Int64)), .second, .val (.int (0 : Int32)), .unset]) d_readVarint_3 rfl rfl ?_
  exact LL (n - 1) 0 q0 (0 : Int32) (0 : Int64) .unset T h0 (by omega) (by rw [hq0]; rfl) rfl (by show 0 = V % 1; omega) (Or.inl rfl) X (Keep.refl h0 [a1]) E0 F0 G0 A0
set_option maxRecDepth 65536 in
set_option maxHeartbeats 40000000 in
theorem con_law (l : Launch) (Z : State) (a0 : Array Value) (hw : ∀ d ∈ tables_1, d.before a0 Z = true) (p1 p2 p3 : Int64) (p4 p5 : Int32) (h0 : Heap) (n0 : Nat) (Z0 : n0 ≤ h0.size)  : Con l Z x code maxLocals ret room_1 #[(.long p1), (.long p2), (.long p3), (.int p4), (.int p5)] h0 n0 16 128 (fun v _ => v = some (.int 1)) := by
  refine Con.of_body (ls := #[.val (.long p1), .second, .val (.long p2), .second, .val (.long p3), .second, .val (.int p4), .val (.int p5), .unset, .unset, .unset, .unset, .unset, .unset, .unset, .unset]) pn_com_example_edgesheet_edgesheet_core_ByteSourceReadVarintPinLaw (fun m => by first | (simp [entryFrame, mkF, argsToLocals, Value.category, maxLocals]; done) | rfl) Z0 (fun p e s m below meth c T (X : Here p l e room_1 s m #[(.long p1), (.long p2), (.long p3), (.int p4), (.int p5)] below meth c Z "com/example/edgesheet/edgesheet/core/ByteSourceReadVarintPinLaw" "law" code 16 (some .boolean) n0 T h0 0 0) => ?_)
  obtain ⟨rm, hrm⟩ : ∃ z, (p4 &&& (2147483647 : Int32)) % (10 : Int32) = z := ⟨_, rfl⟩
  have krm : rm.toInt = (p4 &&& (2147483647 : Int32)).toInt % 10 := by rw [← hrm, Jvm.Kit.i32_rem_nonneg (n_max p4)]; rfl
  obtain ⟨nn, hnn⟩ : ∃ z, rm + (1 : Int32) = z := ⟨_, rfl⟩
  have knn : nn.toInt = rm.toInt + 1 := by rw [← hnn]; exact n_add rfl rfl (by omega) (by omega)
  obtain ⟨n, hn⟩ : ∃ n : Nat, nn.toInt = n := ⟨nn.toInt.toNat, by omega⟩
  have n1 : 1 ≤ n := by omega
  have n10 : n ≤ 10 := by omega
  have k3 : (p5 &&& (3 : Int32)).toInt = p5.toInt % 2 ^ 2 := Jvm.Kit.i32_mask p5 3 (k := 2) (by decide) (by decide)
  obtain ⟨oo, hoo⟩ : ∃ z, p5 &&& (3 : Int32) = z := ⟨_, rfl⟩
  rw [hoo] at k3
  obtain ⟨i, hi⟩ : ∃ n : Nat, oo.toInt = n := ⟨oo.toInt.toNat, by omega⟩
  have hi3 : i ≤ 3 := by omega
  obtain ⟨V, hV⟩ : ∃ V, p1.toBitVec.toNat = V := ⟨_, rfl⟩
  have hVb : V < 2 ^ 64 := by rw [← hV]; exact p1.toBitVec.isLt
  refine r_iload X (pc' := 2) at_0 rfl rfl ?_
  refine r_ldcI X (pc' := 4) (v := (2147483647 : Int32)) at_2 (wd hw 0 rfl) rfl ?_
  refine r_iand X (pc' := 5) (z := (p4 &&& (2147483647 : Int32))) at_4 rfl rfl ?_
  refine r_bipush X (pc' := 7) (v := (10 : Int32)) at_5 rfl rfl ?_
  refine r_irem X (pc' := 8) (z := rm) at_7 (by decide) hrm rfl ?_
  refine r_iconst X (pc' := 9) (v := (1 : Int32)) at_8 rfl rfl ?_
  refine r_iadd X (pc' := 10) (z := nn) at_9 hnn rfl ?_
  refine r_istore X (pc' := 12) (ls' := #[.val (.long p1), .second, .val (.long p2), .second, .val (.long p3), .second, .val (.int p4), .val (.int p5), .val (.int nn), .unset, .unset, .unset, .unset, .unset, .unset, .unset]) at_10 rfl rfl ?_
  refine r_iload X (pc' := 14) at_12 rfl rfl ?_
  refine r_iconst X (pc' := 15) (v := (3 : Int32)) at_14 rfl rfl ?_
  refine r_iand X (pc' := 16) (z := oo) at_15 hoo rfl ?_
  refine r_istore X (pc' := 18) (ls' := #[.val (.long p1), .second, .val (.long p2), .second, .val (.long p3), .second, .val (.int p4), .val (.int p5), .val (.int nn), .val (.int oo), .unset, .unset, .unset, .unset, .unset, .unset]) at_16 rfl rfl ?_
  refine r_bipush X (pc' := 20) (v := (14 : Int32)) at_18 rfl rfl ?_
  refine r_newarray X (pc' := 22) (N := 14) at_20 (wd hw 1 rfl) rfl rfl (by decide) (by decide) (by decide) rfl (fun T85 h86 b87 X88 ebb87 geb87 E89 A90 => ?_)
  refine r_dup X88 (pc' := 23) at_22 rfl rfl ?_
  refine r_iconst X88 (pc' := 24) (v := (0 : Int32)) at_23 rfl rfl ?_
  refine r_lloadN X88 (pc' := 25) at_24 rfl rfl ?_
  refine r_l2i X88 (pc' := 26) (z := (p2.toInt32)) at_25 rfl rfl ?_
  refine r_i2b X88 (pc' := 27) (z := (own_b (p2.toInt32))) at_26 rfl rfl ?_
  refine r_bastore X88 (pc' := 28) (i := 0) (v := (own_b (p2.toInt32))) at_27 A90 rfl (by decide) geb87 (own_nb _) rfl (fun T91 h92 X93 W94 A95 => ?_)
  refine r_dup X93 (pc' := 29) at_28 rfl rfl ?_
  refine r_iconst X93 (pc' := 30) (v := (1 : Int32)) at_29 rfl rfl ?_
  refine r_lloadN X93 (pc' := 31) at_30 rfl rfl ?_
  refine r_bipush X93 (pc' := 33) (v := (8 : Int32)) at_31 rfl rfl ?_
  refine r_lushr X93 (pc' := 34) (z := (XT.ushrL p2 (8 : Int32))) at_33 rfl rfl ?_
  refine r_l2i X93 (pc' := 35) (z := ((XT.ushrL p2 (8 : Int32)).toInt32)) at_34 rfl rfl ?_
  refine r_i2b X93 (pc' := 36) (z := (own_b ((XT.ushrL p2 (8 : Int32)).toInt32))) at_35 rfl rfl ?_
  refine r_bastore X93 (pc' := 37) (i := 1) (v := (own_b ((XT.ushrL p2 (8 : Int32)).toInt32))) at_36 A95 rfl (by decide) geb87 (own_nb _) rfl (fun T96 h97 X98 W99 A100 => ?_)
  refine r_dup X98 (pc' := 38) at_37 rfl rfl ?_
  refine r_iconst X98 (pc' := 39) (v := (2 : Int32)) at_38 rfl rfl ?_
  refine r_lloadN X98 (pc' := 40) at_39 rfl rfl ?_
  refine r_bipush X98 (pc' := 42) (v := (16 : Int32)) at_40 rfl rfl ?_
  refine r_lushr X98 (pc' := 43) (z := (XT.ushrL p2 (16 : Int32))) at_42 rfl rfl ?_
  refine r_l2i X98 (pc' := 44) (z := ((XT.ushrL p2 (16 : Int32)).toInt32)) at_43 rfl rfl ?_
  refine r_i2b X98 (pc' := 45) (z := (own_b ((XT.ushrL p2 (16 : Int32)).toInt32))) at_44 rfl rfl ?_
  refine r_bastore X98 (pc' := 46) (i := 2) (v := (own_b ((XT.ushrL p2 (16 : Int32)).toInt32))) at_45 A100 rfl (by decide) geb87 (own_nb _) rfl (fun T101 h102 X103 W104 A105 => ?_)
  refine r_dup X103 (pc' := 47) at_46 rfl rfl ?_
  refine r_iconst X103 (pc' := 48) (v := (3 : Int32)) at_47 rfl rfl ?_
  refine r_lloadN X103 (pc' := 49) at_48 rfl rfl ?_
  refine r_bipush X103 (pc' := 51) (v := (24 : Int32)) at_49 rfl rfl ?_
  refine r_lushr X103 (pc' := 52) (z := (XT.ushrL p2 (24 : Int32))) at_51 rfl rfl ?_
  refine r_l2i X103 (pc' := 53) (z := ((XT.ushrL p2 (24 : Int32)).toInt32)) at_52 rfl rfl ?_
  refine r_i2b X103 (pc' := 54) (z := (own_b ((XT.ushrL p2 (24 : Int32)).toInt32))) at_53 rfl rfl ?_
  refine r_bastore X103 (pc' := 55) (i := 3) (v := (own_b ((XT.ushrL p2 (24 : Int32)).toInt32))) at_54 A105 rfl (by decide) geb87 (own_nb _) rfl (fun T106 h107 X108 W109 A110 => ?_)
  refine r_dup X108 (pc' := 56) at_55 rfl rfl ?_
  refine r_iconst X108 (pc' := 57) (v := (4 : Int32)) at_56 rfl rfl ?_
  refine r_lloadN X108 (pc' := 58) at_57 rfl rfl ?_
  refine r_bipush X108 (pc' := 60) (v := (32 : Int32)) at_58 rfl rfl ?_
  refine r_lushr X108 (pc' := 61) (z := (XT.ushrL p2 (32 : Int32))) at_60 rfl rfl ?_
  refine r_l2i X108 (pc' := 62) (z := ((XT.ushrL p2 (32 : Int32)).toInt32)) at_61 rfl rfl ?_
  refine r_i2b X108 (pc' := 63) (z := (own_b ((XT.ushrL p2 (32 : Int32)).toInt32))) at_62 rfl rfl ?_
  refine r_bastore X108 (pc' := 64) (i := 4) (v := (own_b ((XT.ushrL p2 (32 : Int32)).toInt32))) at_63 A110 rfl (by decide) geb87 (own_nb _) rfl (fun T111 h112 X113 W114 A115 => ?_)
  refine r_dup X113 (pc' := 65) at_64 rfl rfl ?_
  refine r_iconst X113 (pc' := 66) (v := (5 : Int32)) at_65 rfl rfl ?_
  refine r_lloadN X113 (pc' := 67) at_66 rfl rfl ?_
  refine r_bipush X113 (pc' := 69) (v := (40 : Int32)) at_67 rfl rfl ?_
  refine r_lushr X113 (pc' := 70) (z := (XT.ushrL p2 (40 : Int32))) at_69 rfl rfl ?_
  refine r_l2i X113 (pc' := 71) (z := ((XT.ushrL p2 (40 : Int32)).toInt32)) at_70 rfl rfl ?_
  refine r_i2b X113 (pc' := 72) (z := (own_b ((XT.ushrL p2 (40 : Int32)).toInt32))) at_71 rfl rfl ?_
  refine r_bastore X113 (pc' := 73) (i := 5) (v := (own_b ((XT.ushrL p2 (40 : Int32)).toInt32))) at_72 A115 rfl (by decide) geb87 (own_nb _) rfl (fun T116 h117 X118 W119 A120 => ?_)
  refine r_dup X118 (pc' := 74) at_73 rfl rfl ?_
  refine r_bipush X118 (pc' := 76) (v := (6 : Int32)) at_74 rfl rfl ?_
  refine r_lloadN X118 (pc' := 77) at_76 rfl rfl ?_
  refine r_bipush X118 (pc' := 79) (v := (48 : Int32)) at_77 rfl rfl ?_
  refine r_lushr X118 (pc' := 80) (z := (XT.ushrL p2 (48 : Int32))) at_79 rfl rfl ?_
  refine r_l2i X118 (pc' := 81) (z := ((XT.ushrL p2 (48 : Int32)).toInt32)) at_80 rfl rfl ?_
  refine r_i2b X118 (pc' := 82) (z := (own_b ((XT.ushrL p2 (48 : Int32)).toInt32))) at_81 rfl rfl ?_
  refine r_bastore X118 (pc' := 83) (i := 6) (v := (own_b ((XT.ushrL p2 (48 : Int32)).toInt32))) at_82 A120 rfl (by decide) geb87 (own_nb _) rfl (fun T121 h122 X123 W124 A125 => ?_)
  refine r_dup X123 (pc' := 84) at_83 rfl rfl ?_
  refine r_bipush X123 (pc' := 86) (v := (7 : Int32)) at_84 rfl rfl ?_
  refine r_lloadN X123 (pc' := 87) at_86 rfl rfl ?_
  refine r_bipush X123 (pc' := 89) (v := (56 : Int32)) at_87 rfl rfl ?_
  refine r_lushr X123 (pc' := 90) (z := (XT.ushrL p2 (56 : Int32))) at_89 rfl rfl ?_
  refine r_l2i X123 (pc' := 91) (z := ((XT.ushrL p2 (56 : Int32)).toInt32)) at_90 rfl rfl ?_
  refine r_i2b X123 (pc' := 92) (z := (own_b ((XT.ushrL p2 (56 : Int32)).toInt32))) at_91 rfl rfl ?_
  refine r_bastore X123 (pc' := 93) (i := 7) (v := (own_b ((XT.ushrL p2 (56 : Int32)).toInt32))) at_92 A125 rfl (by decide) geb87 (own_nb _) rfl (fun T126 h127 X128 W129 A130 => ?_)
  refine r_dup X128 (pc' := 94) at_93 rfl rfl ?_
  refine r_bipush X128 (pc' := 96) (v := (8 : Int32)) at_94 rfl rfl ?_
  refine r_lload X128 (pc' := 98) at_96 rfl rfl ?_
  refine r_l2i X128 (pc' := 99) (z := (p3.toInt32)) at_98 rfl rfl ?_
  refine r_i2b X128 (pc' := 100) (z := (own_b (p3.toInt32))) at_99 rfl rfl ?_
  refine r_bastore X128 (pc' := 101) (i := 8) (v := (own_b (p3.toInt32))) at_100 A130 rfl (by decide) geb87 (own_nb _) rfl (fun T131 h132 X133 W134 A135 => ?_)
  refine r_dup X133 (pc' := 102) at_101 rfl rfl ?_
  refine r_bipush X133 (pc' := 104) (v := (9 : Int32)) at_102 rfl rfl ?_
  refine r_lload X133 (pc' := 106) at_104 rfl rfl ?_
  refine r_bipush X133 (pc' := 108) (v := (8 : Int32)) at_106 rfl rfl ?_
  refine r_lushr X133 (pc' := 109) (z := (XT.ushrL p3 (8 : Int32))) at_108 rfl rfl ?_
  refine r_l2i X133 (pc' := 110) (z := ((XT.ushrL p3 (8 : Int32)).toInt32)) at_109 rfl rfl ?_
  refine r_i2b X133 (pc' := 111) (z := (own_b ((XT.ushrL p3 (8 : Int32)).toInt32))) at_110 rfl rfl ?_
  refine r_bastore X133 (pc' := 112) (i := 9) (v := (own_b ((XT.ushrL p3 (8 : Int32)).toInt32))) at_111 A135 rfl (by decide) geb87 (own_nb _) rfl (fun T136 h137 X138 W139 A140 => ?_)
  refine r_dup X138 (pc' := 113) at_112 rfl rfl ?_
  refine r_bipush X138 (pc' := 115) (v := (10 : Int32)) at_113 rfl rfl ?_
  refine r_lload X138 (pc' := 117) at_115 rfl rfl ?_
  refine r_bipush X138 (pc' := 119) (v := (16 : Int32)) at_117 rfl rfl ?_
  refine r_lushr X138 (pc' := 120) (z := (XT.ushrL p3 (16 : Int32))) at_119 rfl rfl ?_
  refine r_l2i X138 (pc' := 121) (z := ((XT.ushrL p3 (16 : Int32)).toInt32)) at_120 rfl rfl ?_
  refine r_i2b X138 (pc' := 122) (z := (own_b ((XT.ushrL p3 (16 : Int32)).toInt32))) at_121 rfl rfl ?_
  refine r_bastore X138 (pc' := 123) (i := 10) (v := (own_b ((XT.ushrL p3 (16 : Int32)).toInt32))) at_122 A140 rfl (by decide) geb87 (own_nb _) rfl (fun T141 h142 X143 W144 A145 => ?_)
  refine r_dup X143 (pc' := 124) at_123 rfl rfl ?_
  refine r_bipush X143 (pc' := 126) (v := (11 : Int32)) at_124 rfl rfl ?_
  refine r_lload X143 (pc' := 128) at_126 rfl rfl ?_
  refine r_bipush X143 (pc' := 130) (v := (24 : Int32)) at_128 rfl rfl ?_
  refine r_lushr X143 (pc' := 131) (z := (XT.ushrL p3 (24 : Int32))) at_130 rfl rfl ?_
  refine r_l2i X143 (pc' := 132) (z := ((XT.ushrL p3 (24 : Int32)).toInt32)) at_131 rfl rfl ?_
  refine r_i2b X143 (pc' := 133) (z := (own_b ((XT.ushrL p3 (24 : Int32)).toInt32))) at_132 rfl rfl ?_
  refine r_bastore X143 (pc' := 134) (i := 11) (v := (own_b ((XT.ushrL p3 (24 : Int32)).toInt32))) at_133 A145 rfl (by decide) geb87 (own_nb _) rfl (fun T146 h147 X148 W149 A150 => ?_)
  refine r_dup X148 (pc' := 135) at_134 rfl rfl ?_
  refine r_bipush X148 (pc' := 137) (v := (12 : Int32)) at_135 rfl rfl ?_
  refine r_lload X148 (pc' := 139) at_137 rfl rfl ?_
  refine r_bipush X148 (pc' := 141) (v := (32 : Int32)) at_139 rfl rfl ?_
  refine r_lushr X148 (pc' := 142) (z := (XT.ushrL p3 (32 : Int32))) at_141 rfl rfl ?_
  refine r_l2i X148 (pc' := 143) (z := ((XT.ushrL p3 (32 : Int32)).toInt32)) at_142 rfl rfl ?_
  refine r_i2b X148 (pc' := 144) (z := (own_b ((XT.ushrL p3 (32 : Int32)).toInt32))) at_143 rfl rfl ?_
  refine r_bastore X148 (pc' := 145) (i := 12) (v := (own_b ((XT.ushrL p3 (32 : Int32)).toInt32))) at_144 A150 rfl (by decide) geb87 (own_nb _) rfl (fun T151 h152 X153 W154 A155 => ?_)
  refine r_dup X153 (pc' := 146) at_145 rfl rfl ?_
  refine r_bipush X153 (pc' := 148) (v := (13 : Int32)) at_146 rfl rfl ?_
  refine r_lload X153 (pc' := 150) at_148 rfl rfl ?_
  refine r_bipush X153 (pc' := 152) (v := (40 : Int32)) at_150 rfl rfl ?_
  refine r_lushr X153 (pc' := 153) (z := (XT.ushrL p3 (40 : Int32))) at_152 rfl rfl ?_
  refine r_l2i X153 (pc' := 154) (z := ((XT.ushrL p3 (40 : Int32)).toInt32)) at_153 rfl rfl ?_
  refine r_i2b X153 (pc' := 155) (z := (own_b ((XT.ushrL p3 (40 : Int32)).toInt32))) at_154 rfl rfl ?_
  refine r_bastore X153 (pc' := 156) (i := 13) (v := (own_b ((XT.ushrL p3 (40 : Int32)).toInt32))) at_155 A155 rfl (by decide) geb87 (own_nb _) rfl (fun T156 h157 X158 W159 A160 => ?_)
  obtain ⟨g0, hg0⟩ : ∃ f, f = (upd (upd (upd (upd (upd (upd (upd (upd (upd (upd (upd (upd (upd (upd (fun _ => 0) 0 (own_b (p2.toInt32))) 1 (own_b ((XT.ushrL p2 (8 : Int32)).toInt32))) 2 (own_b ((XT.ushrL p2 (16 : Int32)).toInt32))) 3 (own_b ((XT.ushrL p2 (24 : Int32)).toInt32))) 4 (own_b ((XT.ushrL p2 (32 : Int32)).toInt32))) 5 (own_b ((XT.ushrL p2 (40 : Int32)).toInt32))) 6 (own_b ((XT.ushrL p2 (48 : Int32)).toInt32))) 7 (own_b ((XT.ushrL p2 (56 : Int32)).toInt32))) 8 (own_b (p3.toInt32))) 9 (own_b ((XT.ushrL p3 (8 : Int32)).toInt32))) 10 (own_b ((XT.ushrL p3 (16 : Int32)).toInt32))) 11 (own_b ((XT.ushrL p3 (24 : Int32)).toInt32))) 12 (own_b ((XT.ushrL p3 (32 : Int32)).toInt32))) 13 (own_b ((XT.ushrL p3 (40 : Int32)).toInt32))) := ⟨_, rfl⟩
  have Ag0 := A160
  rw [← hg0] at Ag0
  have M0 : own_M V i n g0 0 := fun j hj => by omega
  refine r_astore X158 (pc' := 158) (ls' := #[.val (.long p1), .second, .val (.long p2), .second, .val (.long p3), .second, .val (.int p4), .val (.int p5), .val (.int nn), .val (.int oo), .val (.ref b87), .unset, .unset, .unset, .unset, .unset]) at_156 rfl rfl ?_
  refine r_aload X158 (pc' := 160) at_158 rfl rfl ?_
  refine r_iload X158 (pc' := 162) at_160 rfl rfl ?_
  refine r_iconst X158 (pc' := 163) (v := (0 : Int32)) at_162 rfl rfl ?_
  refine r_iload X158 (pc' := 165) at_163 rfl rfl ?_
  refine r_lloadN X158 (pc' := 166) at_165 rfl rfl ?_
  refine r_callS X158 (pc' := 169) at_166 (con_put l Z a0 hw b87 oo (0 : Int32) nn p1 g0 i 0 n V h157 n0 X158.sz Ag0 geb87 hi hi3 rfl (by decide) hn n1 n10 hV) (wd hw 2 rfl) (wd hw 3 rfl) (wd hw 4 rfl) (wd hw 5 rfl) (by decide) (argsL := [(.ref b87), (.int oo), (.int (0 : Int32)), (.int nn), (.long p1)]) (rest := []) (W := 0) rfl rfl pd_put rfl rfl (by decide) (by decide) (by decide) (by decide) rfl (fun v161 T162 h163 X164 QQ165 => ?_)
  obtain ⟨rfl, g1, Ag1, h1_0, h2_0⟩ := QQ165
  show Run p e below _ _ (mkF m 169 #[.val (.long p1), .second, .val (.long p2), .second, .val (.long p3), .second, .val (.int p4), .val (.int p5), .val (.int nn), .val (.int oo), .val (.ref b87), .unset, .unset, .unset, .unset, .unset] [])
  have M1 := own_M_step M0 h1_0 h2_0
  refine r_aload X164 (pc' := 171) at_169 rfl rfl ?_
  refine r_iload X164 (pc' := 173) at_171 rfl rfl ?_
  refine r_iconst X164 (pc' := 174) (v := (1 : Int32)) at_173 rfl rfl ?_
  refine r_iload X164 (pc' := 176) at_174 rfl rfl ?_
  refine r_lloadN X164 (pc' := 177) at_176 rfl rfl ?_
  refine r_callS X164 (pc' := 180) at_177 (con_put l Z a0 hw b87 oo (1 : Int32) nn p1 g1 i 1 n V h163 n0 X164.sz Ag1 geb87 hi hi3 rfl (by decide) hn n1 n10 hV) (wd hw 2 rfl) (wd hw 3 rfl) (wd hw 4 rfl) (wd hw 5 rfl) (by decide) (argsL := [(.ref b87), (.int oo), (.int (1 : Int32)), (.int nn), (.long p1)]) (rest := []) (W := 0) rfl rfl pd_put rfl rfl (by decide) (by decide) (by decide) (by decide) rfl (fun v166 T167 h168 X169 QQ170 => ?_)
  obtain ⟨rfl, g2, Ag2, h1_1, h2_1⟩ := QQ170
  show Run p e below _ _ (mkF m 180 #[.val (.long p1), .second, .val (.long p2), .second, .val (.long p3), .second, .val (.int p4), .val (.int p5), .val (.int nn), .val (.int oo), .val (.ref b87), .unset, .unset, .unset, .unset, .unset] [])
  have M2 := own_M_step M1 h1_1 h2_1
  refine r_aload X169 (pc' := 182) at_180 rfl rfl ?_
  refine r_iload X169 (pc' := 184) at_182 rfl rfl ?_
  refine r_iconst X169 (pc' := 185) (v := (2 : Int32)) at_184 rfl rfl ?_
  refine r_iload X169 (pc' := 187) at_185 rfl rfl ?_
  refine r_lloadN X169 (pc' := 188) at_187 rfl rfl ?_
  refine r_callS X169 (pc' := 191) at_188 (con_put l Z a0 hw b87 oo (2 : Int32) nn p1 g2 i 2 n V h168 n0 X169.sz Ag2 geb87 hi hi3 rfl (by decide) hn n1 n10 hV) (wd hw 2 rfl) (wd hw 3 rfl) (wd hw 4 rfl) (wd hw 5 rfl) (by decide) (argsL := [(.ref b87), (.int oo), (.int (2 : Int32)), (.int nn), (.long p1)]) (rest := []) (W := 0) rfl rfl pd_put rfl rfl (by decide) (by decide) (by decide) (by decide) rfl (fun v171 T172 h173 X174 QQ175 => ?_)
  obtain ⟨rfl, g3, Ag3, h1_2, h2_2⟩ := QQ175
  show Run p e below _ _ (mkF m 191 #[.val (.long p1), .second, .val (.long p2), .second, .val (.long p3), .second, .val (.int p4), .val (.int p5), .val (.int nn), .val (.int oo), .val (.ref b87), .unset, .unset, .unset, .unset, .unset] [])
  have M3 := own_M_step M2 h1_2 h2_2
  refine r_aload X174 (pc' := 193) at_191 rfl rfl ?_
  refine r_iload X174 (pc' := 195) at_193 rfl rfl ?_
  refine r_iconst X174 (pc' := 196) (v := (3 : Int32)) at_195 rfl rfl ?_
  refine r_iload X174 (pc' := 198) at_196 rfl rfl ?_
  refine r_lloadN X174 (pc' := 199) at_198 rfl rfl ?_
  refine r_callS X174 (pc' := 202) at_199 (con_put l Z a0 hw b87 oo (3 : Int32) nn p1 g3 i 3 n V h173 n0 X174.sz Ag3 geb87 hi hi3 rfl (by decide) hn n1 n10 hV) (wd hw 2 rfl) (wd hw 3 rfl) (wd hw 4 rfl) (wd hw 5 rfl) (by decide) (argsL := [(.ref b87), (.int oo), (.int (3 : Int32)), (.int nn), (.long p1)]) (rest := []) (W := 0) rfl rfl pd_put rfl rfl (by decide) (by decide) (by decide) (by decide) rfl (fun v176 T177 h178 X179 QQ180 => ?_)
  obtain ⟨rfl, g4, Ag4, h1_3, h2_3⟩ := QQ180
  show Run p e below _ _ (mkF m 202 #[.val (.long p1), .second, .val (.long p2), .second, .val (.long p3), .second, .val (.int p4), .val (.int p5), .val (.int nn), .val (.int oo), .val (.ref b87), .unset, .unset, .unset, .unset, .unset] [])
  have M4 := own_M_step M3 h1_3 h2_3
  refine r_aload X179 (pc' := 204) at_202 rfl rfl ?_
  refine r_iload X179 (pc' := 206) at_204 rfl rfl ?_
  refine r_iconst X179 (pc' := 207) (v := (4 : Int32)) at_206 rfl rfl ?_
  refine r_iload X179 (pc' := 209) at_207 rfl rfl ?_
  refine r_lloadN X179 (pc' := 210) at_209 rfl rfl ?_
  refine r_callS X179 (pc' := 213) at_210 (con_put l Z a0 hw b87 oo (4 : Int32) nn p1 g4 i 4 n V h178 n0 X179.sz Ag4 geb87 hi hi3 rfl (by decide) hn n1 n10 hV) (wd hw 2 rfl) (wd hw 3 rfl) (wd hw 4 rfl) (wd hw 5 rfl) (by decide) (argsL := [(.ref b87), (.int oo), (.int (4 : Int32)), (.int nn), (.long p1)]) (rest := []) (W := 0) rfl rfl pd_put rfl rfl (by decide) (by decide) (by decide) (by decide) rfl (fun v181 T182 h183 X184 QQ185 => ?_)
  obtain ⟨rfl, g5, Ag5, h1_4, h2_4⟩ := QQ185
  show Run p e below _ _ (mkF m 213 #[.val (.long p1), .second, .val (.long p2), .second, .val (.long p3), .second, .val (.int p4), .val (.int p5), .val (.int nn), .val (.int oo), .val (.ref b87), .unset, .unset, .unset, .unset, .unset] [])
  have M5 := own_M_step M4 h1_4 h2_4
  refine r_aload X184 (pc' := 215) at_213 rfl rfl ?_
  refine r_iload X184 (pc' := 217) at_215 rfl rfl ?_
  refine r_iconst X184 (pc' := 218) (v := (5 : Int32)) at_217 rfl rfl ?_
  refine r_iload X184 (pc' := 220) at_218 rfl rfl ?_
  refine r_lloadN X184 (pc' := 221) at_220 rfl rfl ?_
  refine r_callS X184 (pc' := 224) at_221 (con_put l Z a0 hw b87 oo (5 : Int32) nn p1 g5 i 5 n V h183 n0 X184.sz Ag5 geb87 hi hi3 rfl (by decide) hn n1 n10 hV) (wd hw 2 rfl) (wd hw 3 rfl) (wd hw 4 rfl) (wd hw 5 rfl) (by decide) (argsL := [(.ref b87), (.int oo), (.int (5 : Int32)), (.int nn), (.long p1)]) (rest := []) (W := 0) rfl rfl pd_put rfl rfl (by decide) (by decide) (by decide) (by decide) rfl (fun v186 T187 h188 X189 QQ190 => ?_)
  obtain ⟨rfl, g6, Ag6, h1_5, h2_5⟩ := QQ190
  show Run p e below _ _ (mkF m 224 #[.val (.long p1), .second, .val (.long p2), .second, .val (.long p3), .second, .val (.int p4), .val (.int p5), .val (.int nn), .val (.int oo), .val (.ref b87), .unset, .unset, .unset, .unset, .unset] [])
  have M6 := own_M_step M5 h1_5 h2_5
  refine r_aload X189 (pc' := 226) at_224 rfl rfl ?_
  refine r_iload X189 (pc' := 228) at_226 rfl rfl ?_
  refine r_bipush X189 (pc' := 230) (v := (6 : Int32)) at_228 rfl rfl ?_
  refine r_iload X189 (pc' := 232) at_230 rfl rfl ?_
  refine r_lloadN X189 (pc' := 233) at_232 rfl rfl ?_
  refine r_callS X189 (pc' := 236) at_233 (con_put l Z a0 hw b87 oo (6 : Int32) nn p1 g6 i 6 n V h188 n0 X189.sz Ag6 geb87 hi hi3 rfl (by decide) hn n1 n10 hV) (wd hw 2 rfl) (wd hw 3 rfl) (wd hw 4 rfl) (wd hw 5 rfl) (by decide) (argsL := [(.ref b87), (.int oo), (.int (6 : Int32)), (.int nn), (.long p1)]) (rest := []) (W := 0) rfl rfl pd_put rfl rfl (by decide) (by decide) (by decide) (by decide) rfl (fun v191 T192 h193 X194 QQ195 => ?_)
  obtain ⟨rfl, g7, Ag7, h1_6, h2_6⟩ := QQ195
  show Run p e below _ _ (mkF m 236 #[.val (.long p1), .second, .val (.long p2), .second, .val (.long p3), .second, .val (.int p4), .val (.int p5), .val (.int nn), .val (.int oo), .val (.ref b87), .unset, .unset, .unset, .unset, .unset] [])
  have M7 := own_M_step M6 h1_6 h2_6
  refine r_aload X194 (pc' := 238) at_236 rfl rfl ?_
  refine r_iload X194 (pc' := 240) at_238 rfl rfl ?_
  refine r_bipush X194 (pc' := 242) (v := (7 : Int32)) at_240 rfl rfl ?_
  refine r_iload X194 (pc' := 244) at_242 rfl rfl ?_
  refine r_lloadN X194 (pc' := 245) at_244 rfl rfl ?_
  refine r_callS X194 (pc' := 248) at_245 (con_put l Z a0 hw b87 oo (7 : Int32) nn p1 g7 i 7 n V h193 n0 X194.sz Ag7 geb87 hi hi3 rfl (by decide) hn n1 n10 hV) (wd hw 2 rfl) (wd hw 3 rfl) (wd hw 4 rfl) (wd hw 5 rfl) (by decide) (argsL := [(.ref b87), (.int oo), (.int (7 : Int32)), (.int nn), (.long p1)]) (rest := []) (W := 0) rfl rfl pd_put rfl rfl (by decide) (by decide) (by decide) (by decide) rfl (fun v196 T197 h198 X199 QQ200 => ?_)
  obtain ⟨rfl, g8, Ag8, h1_7, h2_7⟩ := QQ200
  show Run p e below _ _ (mkF m 248 #[.val (.long p1), .second, .val (.long p2), .second, .val (.long p3), .second, .val (.int p4), .val (.int p5), .val (.int nn), .val (.int oo), .val (.ref b87), .unset, .unset, .unset, .unset, .unset] [])
  have M8 := own_M_step M7 h1_7 h2_7
  refine r_aload X199 (pc' := 250) at_248 rfl rfl ?_
  refine r_iload X199 (pc' := 252) at_250 rfl rfl ?_
  refine r_bipush X199 (pc' := 254) (v := (8 : Int32)) at_252 rfl rfl ?_
  refine r_iload X199 (pc' := 256) at_254 rfl rfl ?_
  refine r_lloadN X199 (pc' := 257) at_256 rfl rfl ?_
  refine r_callS X199 (pc' := 260) at_257 (con_put l Z a0 hw b87 oo (8 : Int32) nn p1 g8 i 8 n V h198 n0 X199.sz Ag8 geb87 hi hi3 rfl (by decide) hn n1 n10 hV) (wd hw 2 rfl) (wd hw 3 rfl) (wd hw 4 rfl) (wd hw 5 rfl) (by decide) (argsL := [(.ref b87), (.int oo), (.int (8 : Int32)), (.int nn), (.long p1)]) (rest := []) (W := 0) rfl rfl pd_put rfl rfl (by decide) (by decide) (by decide) (by decide) rfl (fun v201 T202 h203 X204 QQ205 => ?_)
  obtain ⟨rfl, g9, Ag9, h1_8, h2_8⟩ := QQ205
  show Run p e below _ _ (mkF m 260 #[.val (.long p1), .second, .val (.long p2), .second, .val (.long p3), .second, .val (.int p4), .val (.int p5), .val (.int nn), .val (.int oo), .val (.ref b87), .unset, .unset, .unset, .unset, .unset] [])
  have M9 := own_M_step M8 h1_8 h2_8
  refine r_aload X204 (pc' := 262) at_260 rfl rfl ?_
  refine r_iload X204 (pc' := 264) at_262 rfl rfl ?_
  refine r_bipush X204 (pc' := 266) (v := (9 : Int32)) at_264 rfl rfl ?_
  refine r_iload X204 (pc' := 268) at_266 rfl rfl ?_
  refine r_lloadN X204 (pc' := 269) at_268 rfl rfl ?_
  refine r_callS X204 (pc' := 272) at_269 (con_put l Z a0 hw b87 oo (9 : Int32) nn p1 g9 i 9 n V h203 n0 X204.sz Ag9 geb87 hi hi3 rfl (by decide) hn n1 n10 hV) (wd hw 2 rfl) (wd hw 3 rfl) (wd hw 4 rfl) (wd hw 5 rfl) (by decide) (argsL := [(.ref b87), (.int oo), (.int (9 : Int32)), (.int nn), (.long p1)]) (rest := []) (W := 0) rfl rfl pd_put rfl rfl (by decide) (by decide) (by decide) (by decide) rfl (fun v206 T207 h208 X209 QQ210 => ?_)
  obtain ⟨rfl, g10, Ag10, h1_9, h2_9⟩ := QQ210
  show Run p e below _ _ (mkF m 272 #[.val (.long p1), .second, .val (.long p2), .second, .val (.long p3), .second, .val (.int p4), .val (.int p5), .val (.int nn), .val (.int oo), .val (.ref b87), .unset, .unset, .unset, .unset, .unset] [])
  have M10 := own_M_step M9 h1_9 h2_9
  refine r_iload X209 (pc' := 274) at_272 rfl rfl ?_
  refine r_bipush X209 (pc' := 276) (v := (10 : Int32)) at_274 rfl rfl ?_
  have J : ∀ (ex : Int64) (hex : ex.toBitVec.toNat = V % 2 ^ (7 * n)), Run p e below (Fnl s n0 16 128 (fun v _ => v = some (.int 1))) T207 (mkF m 294 #[.val (.long p1), .second, .val (.long p2), .second, .val (.long p3), .second, .val (.int p4), .val (.int p5), .val (.int nn), .val (.int oo), .val (.ref b87), .unset, .unset, .unset, .unset, .unset] [(.long ex)]) := by
    intro ex hex
    refine r_lstore X209 (pc' := 296) (ls' := #[.val (.long p1), .second, .val (.long p2), .second, .val (.long p3), .second, .val (.int p4), .val (.int p5), .val (.int nn), .val (.int oo), .val (.ref b87), .val (.long ex), .second, .unset, .unset, .unset]) at_294 rfl rfl ?_
    refine r_new X209 (pc' := 299) at_296 (wd hw 7 rfl) (wd hw 8 rfl) (wd hw 9 rfl) (by decide) (by decide) rfl (fun T211 h212 b213 X214 ebb213 geb213 E215 A216 D217 => ?_)
    have ne218 : b87 ≠ b213 := Nat.ne_of_lt (by rw [ebb213]; exact Ag10.lt)
    have f219 := Ag10.ext E215
    have f220 := D217 (O := "com/example/edgesheet/edgesheet/core/ByteSource") (f := "bytes") (Or.inl (wd hw 22 rfl)) (ty := (.array .byte)) (by decide)
    have f221 := D217 (O := "com/example/edgesheet/edgesheet/core/ByteSource") (f := "position") (Or.inl (wd hw 24 rfl)) (ty := .int) (by decide)
    refine r_dup X214 (pc' := 300) at_299 rfl rfl ?_
    refine r_init X214 (pc' := 303) at_300 (con_init l Z a0 hw b213 h212 n0 X214.sz) rfl (wd hw 10 rfl) (wd hw 11 rfl) (wd hw 9 rfl) (wd hw 12 rfl) (by decide) (argsL := []) (rest := [(.ref b213)]) (W := 1) rfl rfl pd_init_ByteSource rfl rfl (by decide) (by decide) (by decide) (by decide) rfl (fun v222 T223 h224 X225 QQ226 => ?_)
    obtain ⟨rfl, rfl⟩ := QQ226
    show Run p e below _ _ (mkF m 303 #[.val (.long p1), .second, .val (.long p2), .second, .val (.long p3), .second, .val (.int p4), .val (.int p5), .val (.int nn), .val (.int oo), .val (.ref b87), .val (.long ex), .second, .unset, .unset, .unset] [(.ref b213)])
    refine r_astore X225 (pc' := 305) (ls' := #[.val (.long p1), .second, .val (.long p2), .second, .val (.long p3), .second, .val (.int p4), .val (.int p5), .val (.int nn), .val (.int oo), .val (.ref b87), .val (.long ex), .second, .val (.ref b213), .unset, .unset]) at_303 rfl rfl ?_
    refine r_aload X225 (pc' := 307) at_305 rfl rfl ?_
    refine r_aload X225 (pc' := 309) at_307 rfl rfl ?_
    refine r_iload X225 (pc' := 311) at_309 rfl rfl ?_
    refine r_callV X225 (pc' := 314) at_311 (con_reset l Z a0 hw b213 b87 oo .null (.int (0 : Int32)) h212 n0 X225.sz A216 f220 f221 geb213) A216 (wd hw 16 rfl) (wd hw 17 rfl) (wd hw 19 rfl) (wd hw 18 rfl) (wd hw 9 rfl) (wd hw 20 rfl) (by decide) (argsL := [(.ref b87), (.int oo)]) (rest := []) (W := 0) rfl rfl pd_reset rfl rfl (by decide) (by decide) (by decide) (by decide) rfl (fun v227 T228 h229 X230 QQ231 => ?_)
    obtain ⟨rfl, K1, fb, fp⟩ := QQ231
    show Run p e below _ _ (mkF m 314 #[.val (.long p1), .second, .val (.long p2), .second, .val (.long p3), .second, .val (.int p4), .val (.int p5), .val (.int nn), .val (.int oo), .val (.ref b87), .val (.long ex), .second, .val (.ref b213), .unset, .unset] [])
    have f232 := f219.keep K1 (ninS ne218 nin0)
    have f233 := A216.keep K1
    refine r_aload X230 (pc' := 316) at_314 rfl rfl ?_
    refine r_callV X230 (pc' := 319) at_316 (con_read l Z a0 hw b213 b87 oo g10 i n V h229 n0 X230.sz f233 fb fp f232 ne218 geb213 hi hi3 n1 n10 hVb M10) f233 (wd hw 25 rfl) (wd hw 26 rfl) (wd hw 28 rfl) (wd hw 27 rfl) (wd hw 9 rfl) (wd hw 29 rfl) (by decide) (argsL := []) (rest := []) (W := 0) rfl rfl pd_readVarint rfl rfl (by decide) (by decide) (by decide) (by decide) rfl (fun v234 T235 h236 X237 QQ238 => ?_)
    obtain ⟨got, q2, rfl, K2, hgot, fp2, hq2⟩ := QQ238
    show Run p e below _ _ (mkF m 319 #[.val (.long p1), .second, .val (.long p2), .second, .val (.long p3), .second, .val (.int p4), .val (.int p5), .val (.int nn), .val (.int oo), .val (.ref b87), .val (.long ex), .second, .val (.ref b213), .unset, .unset] [(.long got)])
    have f239 := f232.keep K2 (ninS ne218 nin0)
    have f240 := f233.keep K2
    have eg : got = ex := Int64.toBitVec_inj.mp (BitVec.eq_of_toNat_eq (by rw [hgot, hex]))
    have et : got.toInt = ex.toInt := by rw [eg]
    have cc := n_cmp got ex
    refine r_lstore X237 (pc' := 321) (ls' := #[.val (.long p1), .second, .val (.long p2), .second, .val (.long p3), .second, .val (.int p4), .val (.int p5), .val (.int nn), .val (.int oo), .val (.ref b87), .val (.long ex), .second, .val (.ref b213), .val (.long got), .second]) at_319 rfl rfl ?_
    refine r_lload X237 (pc' := 323) at_321 rfl rfl ?_
    refine r_lload X237 (pc' := 325) at_323 rfl rfl ?_
    refine r_lcmp X237 (pc' := 326) (z := (XT.cmpL got ex)) at_325 rfl rfl ?_
    refine r_ifN X237 (pc2 := 329) at_326 (by decide) rfl (a := (XT.cmpL got ex).toInt) (b := 0) rfl rfl (show ¬ (¬ (XT.cmpL got ex).toInt = 0) from (by omega)) ?_
    refine r_aload X237 (pc' := 331) at_329 rfl rfl ?_
    refine r_callV X237 (pc' := 334) at_331 (con_pos l Z a0 hw b213 q2 h236 n0 X237.sz fp2) f240 (wd hw 30 rfl) (wd hw 31 rfl) (wd hw 33 rfl) (wd hw 32 rfl) (wd hw 9 rfl) (wd hw 34 rfl) (by decide) (argsL := []) (rest := []) (W := 0) rfl rfl pd_position rfl rfl (by decide) (by decide) (by decide) (by decide) rfl (fun v241 T242 h243 X244 QQ245 => ?_)
    obtain ⟨rfl, rfl⟩ := QQ245
    show Run p e below _ _ (mkF m 334 #[.val (.long p1), .second, .val (.long p2), .second, .val (.long p3), .second, .val (.int p4), .val (.int p5), .val (.int nn), .val (.int oo), .val (.ref b87), .val (.long ex), .second, .val (.ref b213), .val (.long got), .second] [(.int q2)])
    obtain ⟨sm, hsm⟩ : ∃ z, oo + nn = z := ⟨_, rfl⟩
    have ksm : sm.toInt = (i : Int) + n := by rw [← hsm]; exact n_add hi hn (by omega) (by omega)
    refine r_iload X244 (pc' := 336) at_334 rfl rfl ?_
    refine r_iload X244 (pc' := 338) at_336 rfl rfl ?_
    refine r_iadd X244 (pc' := 339) (z := sm) at_338 hsm rfl ?_
    refine r_icmpN X244 (pc2 := 342) at_339 (by decide) rfl (a := q2.toInt) (b := sm.toInt) rfl rfl (show ¬ (¬ q2.toInt = sm.toInt) from (by omega)) ?_
    refine r_iconst X244 (pc' := 343) (v := (1 : Int32)) at_342 rfl rfl ?_
    refine r_goto X244 (pc' := 347) at_343 (by decide) (by decide) ?_
    exact r_retN X244 (by simp) at_347 (z := (1 : Int32)) (w := (1 : Int32)) rfl rfl (by decide) (by decide)
  obtain ⟨s7, hs7⟩ : ∃ z, (7 : Int32) * nn = z := ⟨_, rfl⟩
  have ks7 : s7.toInt = ((7 * n : Nat) : Int) := by rw [← hs7, Jvm.Kit.i32_mul (by rw [hn, show (7 : Int32).toInt = 7 from rfl]; omega) (by rw [hn, show (7 : Int32).toInt = 7 from rfl]; omega), hn]; rfl
  refine r_icmp X209 (pc' := 283) (pc2 := 279) at_276 (by decide) (by decide) rfl (a := nn.toInt) (b := 10) rfl rfl (fun (cq246 : ¬ nn.toInt = 10) => ?_) (fun (cq246 : ¬ (¬ nn.toInt = 10)) => ?_)
  · refine r_lloadN X209 (pc' := 284) at_283 rfl rfl ?_
    refine r_lconst X209 (pc' := 285) (v := (1 : Int64)) at_284 rfl rfl ?_
    refine r_bipush X209 (pc' := 287) (v := (7 : Int32)) at_285 rfl rfl ?_
    refine r_iload X209 (pc' := 289) at_287 rfl rfl ?_
    refine r_imul X209 (pc' := 290) (z := s7) at_289 hs7 rfl ?_
    refine r_lshl X209 (pc' := 291) (z := ((1 : Int64) <<< (s7.toInt64 &&& 63))) at_290 rfl rfl ?_
    refine r_lconst X209 (pc' := 292) (v := (1 : Int64)) at_291 rfl rfl ?_
    refine r_lsub X209 (pc' := 293) (z := (((1 : Int64) <<< (s7.toInt64 &&& 63)) - (1 : Int64))) at_292 rfl rfl ?_
    refine r_land X209 (pc' := 294) (z := (p1 &&& (((1 : Int64) <<< (s7.toInt64 &&& 63)) - (1 : Int64)))) at_293 rfl rfl ?_
    exact J _ (by rw [own_one s7 (7 * n) ks7 (by omega), hV])
  · refine r_lloadN X209 (pc' := 280) at_279 rfl rfl ?_
    refine r_goto X209 (pc' := 294) at_280 (by decide) (by decide) ?_
    exact J _ (by rw [hV, show n = 10 by omega, Nat.mod_eq_of_lt (Nat.lt_trans hVb (by decide))])
set_option maxRecDepth 65536 in
set_option maxHeartbeats 40000000 in
theorem comes_1 {Post : Tables → Env → Array Value → State → Outcome → State → Prop} (hpost : ∀ tb e args s v u, (limb_1_1.after args s (.returned v) u = true ∧ limb_1_2.after args s (.returned v) u = true ∧ True) → FrameEnd s (.returned v) u (Jvm.fieldLocs frame_1_writes args s ++ Jvm.arrayLocs frame_1_arrays args s ++ Jvm.staticLocs frame_1_statics s) 16 128 → Post tb e args s (.returned v) u) :
    ArmFor flags0 classFile x code maxLocals ret World_1 tables_1 room_1 Calls_1 rest_1 Pre_1 Post := by
  intro l hfl _ _ p e ha hc hk s m args below hf hA hF happ hP
  obtain ⟨hcalls, hrest, hpre⟩ := hP
  obtain ⟨-, -, -, hnamed, -, -, -, hat⟩ := (Spec.applies_iff hf).mp happ
  obtain ⟨hg, hn⟩ := and_e (Cond.before_iff.mp (show (Jvm.Cond.and given_1 narrow_1).before args s = true from hpre))
  obtain ⟨gc, gr0⟩ := and_e hg
  obtain ⟨gv0, gr1⟩ := and_e gr0
  obtain ⟨gv1, gr2⟩ := and_e gr1
  obtain ⟨gv2, gr3⟩ := and_e gr2
  obtain ⟨gv3, gr4⟩ := and_e gr3
  obtain ⟨w0, w1, w2, w3, w4, rfl⟩ : ∃ w0 w1 w2 w3 w4 : Value, args = #[w0, w1, w2, w3, w4] := by
    have hs : args.size = 5 := by simpa [Cond.value, given_1] using gc
    obtain ⟨L⟩ := args
    match L, hs with
    | [w0, w1, w2, w3, w4], _ => exact ⟨w0, w1, w2, w3, w4, rfl⟩
  have hw := fun d (hd : d ∈ tables_1) => atoms_spec (ws := Jvm.Cond.code x code maxLocals ret :: tables_1) hat d (List.mem_cons_of_mem _ hd)
  obtain ⟨i0, ei0⟩ := isL_v gv0
  obtain rfl : w0 = (.long i0) := Option.some.inj ei0
  obtain ⟨i1, ei1⟩ := isL_v gv1
  obtain rfl : w1 = (.long i1) := Option.some.inj ei1
  obtain ⟨i2, ei2⟩ := isL_v gv2
  obtain rfl : w2 = (.long i2) := Option.some.inj ei2
  obtain ⟨i3, ei3⟩ := is_v gv3
  obtain rfl : w3 = (.int i3) := Option.some.inj ei3
  obtain ⟨i4, ei4⟩ := is_v gr4
  obtain rfl : w4 = (.int i4) := Option.some.inj ei4
  obtain ⟨n, o, h1, h2, h3, _, L, rfl, ⟨rfl, -, N⟩, hq⟩ := con_law l s _ hw i0 i1 i2 i3 i4 s.heap s.heap.size (Nat.le_refl _) tables_1 p e ha hc hk s m _ below hf ((Spec.applies_iff_loose hf).mp happ).1 ⟨rfl, State.Warmed39.refl s, rfl⟩ trivial
  refine ⟨n, _, h1, h2, h3, hpost _ _ _ _ _ _ ⟨Cond.after_iff.mpr rfl, Cond.after_iff.mpr (eq_i res_at (Term.int_eval (1)) rfl), trivial⟩ ⟨hq.1, hq.2.1, (hq.2.2.sift fun y hy => Or.inr (N y hy)).mono (by decide) (by decide)⟩⟩
theorem main_1_1 : Claimed_1_1 := comes_1 fun _ _ _ _ _ _ h hF => ⟨h.1, hF⟩
theorem main_1_2 : Claimed_1_2 := comes_1 fun _ _ _ _ _ _ h hF => ⟨h.2.1, hF⟩
end Jvm.Pilot.@@N@@
namespace Jvm.Pilot.@@N@@
open Jvm Jvm.ClassFile Sem Op Lib Jvm.Free Jvm.Stand Jvm.Pilot.@@N@@.Jvm.D
/-! MADE BY PROGRAM (witnessworld.py) out of the Statement's table words and the real class files: 9 classes; the members and pool entries that the words name. The judged class is class 1, her method 2. -/
namespace start1
open Jvm.ClassFile
def u (s : String) : CpInfo := .utf8 (stringToUtf16 s)
/-- a pool by its gaps: so many unusable entries, then the entry; so many at the end -/
def gap : Nat → List CpInfo → List CpInfo
  | 0, r => r
  | n + 1, r => .unusable :: gap n r
def poolList (es : List (Nat × CpInfo)) (last : Nat) : List CpInfo := es.foldr (fun e r => gap e.1 (e.2 :: r)) (gap last [])
def pool (es : List (Nat × CpInfo)) (last : Nat) : Array CpInfo := ⟨poolList es last⟩
def fileOf (pool : Array CpInfo) (this : Nat) (attrs : Array Attribute := #[]) (ms : Array MethodInfo := #[]) (fl : Nat := 33) (sup : Nat := 0) (ifs : Array Nat := #[]) (fds : Array FieldInfo := #[]) : ClassFile where
  minorVersion := 0
  majorVersion := 65
  constantPool := pool
  accessFlags := fl
  thisClass := this
  superClass := sup
  interfaces := ifs
  fields := fds
  methods := ms
  attributes := attrs
def plain (name : String) (sup : Option ClassId) : Class where
  name := name
  kind := .ordinary
  loader := none
  accessFlags := 33
  super := sup
  interfaces := #[]
  cf := none
  fields := #[]
  methods := #[]
  instanceTypes := #[]
  staticTypes := #[]
  resolved := #[]
  callSites := []
  init := .initialized
  statics := none
  mirror := none

def pool0 : Array CpInfo := pool [(5, u "<init>"), (0, u "()V"), (1, .class_ 10), (1, u "java/lang/Object")] 113

def k0c0 : Code := { maxStack := 0, maxLocals := 1, code := object_method_1_code, exceptionTable := #[], attributes := #[] }
def k0m0 : Method := { name := "<init>", desc := "()V", sig := { parameters := [], returnType := none }, accessFlags := 1, code := some k0c0 }
/-- java/lang/Object -/
def k0 : Class := { plain "java/lang/Object" none with
  accessFlags := 33
  interfaces := #[]
  cf := some (fileOf pool0 8 #[] #[{ accessFlags := 1, nameIndex := 5, descriptorIndex := 6, attributes := #[] }] 33 0 #[] #[])
  fields := #[]
  methods := #[k0m0]
  instanceTypes := #[]
  staticTypes := #[]
  resolved := Array.replicate 124 none
  statics := none }

def pool1 : Array CpInfo := pool [(2, .class_ 4), (0, .nameAndType 5 6), (0, u "java/lang/Object"), (0, u "<init>"), (0, u "()V"), (0, .long 127), (1, .integer 2147483647), (0, .methodref 11 12), (0, .class_ 13), (0, .nameAndType 14 15), (0, u "com/example/edgesheet/edgesheet/core/ByteSourceReadVarintPinLaw"), (0, u "put"), (0, u "([BIIIJ)V"), (0, .class_ 17), (0, u "com/example/edgesheet/edgesheet/core/ByteSource"), (0, .methodref 16 3), (0, .methodref 16 20), (0, .nameAndType 21 22), (0, u "reset"), (0, u "([BI)V"), (0, .methodref 16 24), (0, .nameAndType 25 26), (0, u "readVarint"), (0, u "()J"), (0, .methodref 16 28), (0, .nameAndType 29 30), (0, u "position"), (0, u "()I"), (3, u "law"), (0, u "(JJJII)Z")] 4

def k1m0 : Method := { name := "<init>", desc := "()V", sig := { parameters := [], returnType := none }, accessFlags := 1, code := none }
def k1c1 : Code := { maxStack := 4, maxLocals := 8, code := method_2_code, exceptionTable := #[], attributes := #[] }
def k1m1 : Method := { name := "put", desc := "([BIIIJ)V", sig := { parameters := [(.array .byte), .int, .int, .int, .long], returnType := none }, accessFlags := 10, code := some k1c1 }
def k1c2 : Code := { maxStack := 6, maxLocals := 16, code := code, exceptionTable := #[], attributes := #[] }
def k1m2 : Method := { name := "law", desc := "(JJJII)Z", sig := { parameters := [.long, .long, .long, .int, .int], returnType := some .boolean }, accessFlags := 9, code := some k1c2 }
/-- com/example/edgesheet/edgesheet/core/ByteSourceReadVarintPinLaw -/
def k1 : Class := { plain "com/example/edgesheet/edgesheet/core/ByteSourceReadVarintPinLaw" (some 0) with
  accessFlags := 49
  interfaces := #[]
  cf := some (fileOf pool1 11 #[] #[{ accessFlags := 1, nameIndex := 5, descriptorIndex := 6, attributes := #[] }, { accessFlags := 10, nameIndex := 14, descriptorIndex := 15, attributes := #[] }, { accessFlags := 9, nameIndex := 34, descriptorIndex := 35, attributes := #[] }] 49 2 #[] #[])
  fields := #[]
  methods := #[k1m0, k1m1, k1m2]
  instanceTypes := #[]
  staticTypes := #[]
  resolved := Array.replicate 40 none
  statics := none }

def pool2 : Array CpInfo := pool [(1, .methodref 2 3), (0, .class_ 4), (0, .nameAndType 5 6), (0, u "java/lang/Object"), (0, u "<init>"), (0, u "()V"), (0, .fieldref 8 9), (0, .class_ 10), (0, .nameAndType 11 12), (0, u "com/example/edgesheet/edgesheet/core/ByteSource"), (0, u "bytes"), (0, u "[B"), (0, .fieldref 8 14), (0, .nameAndType 15 16), (0, u "position"), (0, u "I"), (2, u "reset"), (0, u "([BI)V"), (1, u "()I"), (3, u "readVarint"), (0, u "()J")] 4

def k2c0 : Code := { maxStack := 1, maxLocals := 1, code := prog_6_method_1_code, exceptionTable := #[], attributes := #[] }
def k2m0 : Method := { name := "<init>", desc := "()V", sig := { parameters := [], returnType := none }, accessFlags := 0, code := some k2c0 }
def k2c1 : Code := { maxStack := 2, maxLocals := 3, code := prog_6_method_2_code, exceptionTable := #[], attributes := #[] }
def k2m1 : Method := { name := "reset", desc := "([BI)V", sig := { parameters := [(.array .byte), .int], returnType := none }, accessFlags := 0, code := some k2c1 }
def k2c2 : Code := { maxStack := 1, maxLocals := 1, code := prog_6_method_4_code, exceptionTable := #[], attributes := #[] }
def k2m2 : Method := { name := "position", desc := "()I", sig := { parameters := [], returnType := some .int }, accessFlags := 0, code := some k2c2 }
def k2c3 : Code := { maxStack := 5, maxLocals := 5, code := prog_6_method_7_code, exceptionTable := #[], attributes := #[] }
def k2m3 : Method := { name := "readVarint", desc := "()J", sig := { parameters := [], returnType := some .long }, accessFlags := 0, code := some k2c3 }
/-- com/example/edgesheet/edgesheet/core/ByteSource -/
def k2 : Class := { plain "com/example/edgesheet/edgesheet/core/ByteSource" (some 0) with
  accessFlags := 48
  interfaces := #[]
  cf := some (fileOf pool2 8 #[] #[{ accessFlags := 0, nameIndex := 5, descriptorIndex := 6, attributes := #[] }, { accessFlags := 0, nameIndex := 19, descriptorIndex := 20, attributes := #[] }, { accessFlags := 0, nameIndex := 15, descriptorIndex := 22, attributes := #[] }, { accessFlags := 0, nameIndex := 26, descriptorIndex := 27, attributes := #[] }] 48 2 #[] #[{ accessFlags := 2, nameIndex := 11, descriptorIndex := 12, attributes := #[] }, { accessFlags := 2, nameIndex := 15, descriptorIndex := 16, attributes := #[] }])
  fields := #[{ name := "bytes", type := (.array .byte), accessFlags := 2, slot := 0, constantValue := 0 }, { name := "position", type := .int, accessFlags := 2, slot := 1, constantValue := 0 }]
  methods := #[k2m0, k2m1, k2m2, k2m3]
  instanceTypes := #[(.array .byte), .int]
  staticTypes := #[]
  resolved := Array.replicate 32 none
  statics := none }

def pool3 : Array CpInfo := pool [(1, u "java/lang/Cloneable"), (0, .class_ 1), (0, u "java/lang/Object"), (0, .class_ 3)] 3

/-- java/lang/Cloneable -/
def k3 : Class := { plain "java/lang/Cloneable" (some 0) with
  accessFlags := 1537
  interfaces := #[]
  cf := some (fileOf pool3 2 #[] #[] 1537 4 #[] #[])
  fields := #[]
  methods := #[]
  instanceTypes := #[]
  staticTypes := #[]
  resolved := Array.replicate 8 none
  statics := none }

def pool4 : Array CpInfo := pool [(1, u "java/io/Serializable"), (0, .class_ 1), (0, u "java/lang/Object"), (0, .class_ 3)] 3

/-- java/io/Serializable -/
def k4 : Class := { plain "java/io/Serializable" (some 0) with
  accessFlags := 1537
  interfaces := #[]
  cf := some (fileOf pool4 2 #[] #[] 1537 4 #[] #[])
  fields := #[]
  methods := #[]
  instanceTypes := #[]
  staticTypes := #[]
  resolved := Array.replicate 8 none
  statics := none }

/-- the primitive byte -/
def k5 : Class := { plain "byte" none with kind := .primitive 'B', accessFlags := 0x411 }
/-- [B -/
def k6 : Class := { plain "[B" (some 0) with kind := .array 5 .byte, interfaces := #[3, 4], accessFlags := 1041 }

/-- the primitive int -/
def k7 : Class := { plain "int" none with kind := .primitive 'I', accessFlags := 0x411 }
/-- [I -/
def k8 : Class := { plain "[I" (some 0) with kind := .array 7 .int, interfaces := #[3, 4], accessFlags := 1041 }

def heap : Heap := #[]
def classes : Array Class := #[k0, k1, k2, k3, k4, k5, k6, k7, k8]
def interned : List (Array UInt16 × Addr) := []
def slotsUsed : Nat := 0
def theMethod : MethodId := ⟨1, 2⟩
def args0 : Array Value := #[.long 5, .long 5, .long 5, .int 5, .int 5]
def aboutOver (below : List Frame) : State where
  vm := { classes := classes, interned := interned.toArray }
  heap := heap
  slotsUsed := slotsUsed
  threads := #[{ frames := .invoking theMethod args0 :: below }]
def below0 : List Frame := [.native { method := ⟨0, 0⟩, args := #[] }]
def about1 : State := aboutOver below0
def p0 : Program := .bare "" "" ""
def e0 : Env := launch0.env 0 0 0
theorem w_frames : about1.frames = Frame.invoking theMethod args0 :: below0 := rfl
set_option maxRecDepth 65536 in
theorem w_args : argsFit about1.vm theMethod args0 = true := by decide +kernel
set_option maxRecDepth 65536 in
theorem w_heap : heapFits about1 = true := by decide +kernel
set_option maxRecDepth 65536 in
theorem w_runnable : about1.curStatus? = some .runnable := by decide +kernel
set_option maxRecDepth 65536 in
theorem w_alone : about1.alone = true := by decide +kernel
set_option maxRecDepth 65536 in
theorem w_named : about1.methodNamed? x = some theMethod := by decide +kernel
set_option maxRecDepth 65536 in
theorem w_hears : about1.hears theMethod below0 = true := by decide +kernel
set_option maxRecDepth 65536 in
theorem w_ripe : about1.ripe theMethod args0 below0 = true := by decide +kernel
theorem w_running : about1.status = .running := rfl
set_option maxRecDepth 65536 in
theorem w_room : about1.hasRoom e0.platform room_1 = true :=
  launch0.hasRoom_least _ room_1 (by decide +kernel) (by decide +kernel) (by decide +kernel) (by decide +kernel) (by decide +kernel) (by decide +kernel)
theorem allAtoms_all (ts : List Jvm.Cond) (a : Array Jvm.Value) (st : Jvm.State) : (allAtoms ts).before a st = ts.all (fun c => c.before a st) := by
  induction ts with
  | nil => rfl
  | cons c t ih =>
    show (Jvm.Cond.and c (allAtoms t)).before a st = _
    rw [Jvm.Cond.before_and, ih, List.all_cons]
def words1 : List Jvm.Cond := Jvm.Cond.code x code maxLocals ret :: tables_1
/-- a 'code' word, met by the world's own term for the bytes: nothing is compared byte by byte -/
theorem code_word {y : MethodName} {bytes : ByteArray} {mx : Nat} {rt : Option FieldType} {a : Array Value} {s : State} {m : MethodId} {meth : Method} {c : Code} (h1 : s.methodNamed? y = some m) (h2 : s.vm.method? m = some meth) (h3 : meth.code = some c) (h4 : c.code = bytes)
    (h5 : (c.maxLocals == mx && c.exceptionTable.isEmpty && decide (c.maxStack ≤ mostOperands) && decide (meth.sig.returnType = rt) && !meth.locks && decide (parseMethodDescriptor y.desc = some meth.sig)) = true) : (Jvm.Cond.code y bytes mx rt).before a s = true := by
  simp only [Bool.and_eq_true, beq_iff_eq, Bool.not_eq_true', decide_eq_true_eq] at h5
  obtain ⟨⟨⟨⟨⟨g1, g2⟩, g3⟩, g4⟩, g5⟩, g6⟩ := h5
  simp [Cond.before, Cond.holds, Cond.value, h1, h2, h3, h4, g1, g2, g3, g4, g5, g6]
def isCode : Jvm.Cond → Bool
  | .code _ _ _ _ => true
  | _ => false
theorem all_split {L : List Jvm.Cond} {P : Jvm.Cond → Bool} (h1 : L.all (fun c => isCode c || P c) = true) (h2 : ∀ c ∈ L.filter isCode, P c = true) : L.all P = true := by
  refine List.all_eq_true.mpr fun c hc => ?_
  have h := List.all_eq_true.mp h1 c hc
  rcases Bool.eq_false_or_eq_true (isCode c) with hi | hi
  · exact h2 c (List.mem_filter.mpr ⟨hc, hi⟩)
  · simpa [hi] using h
set_option maxRecDepth 65536 in
theorem w_c0 : (Jvm.Cond.code x code maxLocals ret).before args0 about1 = true := code_word (m := ⟨1, 2⟩) (meth := k1m2) (c := k1c2) (by decide +kernel) rfl rfl rfl (by decide +kernel)
set_option maxRecDepth 65536 in
theorem w_c1 : (Jvm.Cond.code ({ cls := "com/example/edgesheet/edgesheet/core/ByteSourceReadVarintPinLaw", name := "put", desc := "([BIIIJ)V" } : Jvm.MethodName) method_2_code (8 : Nat) (Option.none : Option Jvm.ClassFile.FieldType)).before args0 about1 = true := code_word (m := ⟨1, 1⟩) (meth := k1m1) (c := k1c1) (by decide +kernel) rfl rfl rfl (by decide +kernel)
set_option maxRecDepth 65536 in
theorem w_c2 : (Jvm.Cond.code ({ cls := "com/example/edgesheet/edgesheet/core/ByteSource", name := "<init>", desc := "()V" } : Jvm.MethodName) prog_6_method_1_code (1 : Nat) (Option.none : Option Jvm.ClassFile.FieldType)).before args0 about1 = true := code_word (m := ⟨2, 0⟩) (meth := k2m0) (c := k2c0) (by decide +kernel) rfl rfl rfl (by decide +kernel)
set_option maxRecDepth 65536 in
theorem w_c3 : (Jvm.Cond.code ({ cls := "java/lang/Object", name := "<init>", desc := "()V" } : Jvm.MethodName) object_method_1_code (1 : Nat) (Option.none : Option Jvm.ClassFile.FieldType)).before args0 about1 = true := code_word (m := ⟨0, 0⟩) (meth := k0m0) (c := k0c0) (by decide +kernel) rfl rfl rfl (by decide +kernel)
set_option maxRecDepth 65536 in
theorem w_c4 : (Jvm.Cond.code ({ cls := "com/example/edgesheet/edgesheet/core/ByteSource", name := "reset", desc := "([BI)V" } : Jvm.MethodName) prog_6_method_2_code (3 : Nat) (Option.none : Option Jvm.ClassFile.FieldType)).before args0 about1 = true := code_word (m := ⟨2, 1⟩) (meth := k2m1) (c := k2c1) (by decide +kernel) rfl rfl rfl (by decide +kernel)
set_option maxRecDepth 65536 in
theorem w_c5 : (Jvm.Cond.code ({ cls := "com/example/edgesheet/edgesheet/core/ByteSource", name := "readVarint", desc := "()J" } : Jvm.MethodName) prog_6_method_7_code (5 : Nat) (Option.some Jvm.ClassFile.FieldType.long)).before args0 about1 = true := code_word (m := ⟨2, 3⟩) (meth := k2m3) (c := k2c3) (by decide +kernel) rfl rfl rfl (by decide +kernel)
set_option maxRecDepth 65536 in
theorem w_c6 : (Jvm.Cond.code ({ cls := "com/example/edgesheet/edgesheet/core/ByteSource", name := "position", desc := "()I" } : Jvm.MethodName) prog_6_method_4_code (1 : Nat) (Option.some Jvm.ClassFile.FieldType.int)).before args0 about1 = true := code_word (m := ⟨2, 2⟩) (meth := k2m2) (c := k2c2) (by decide +kernel) rfl rfl rfl (by decide +kernel)
def codes1 : List Jvm.Cond := [Jvm.Cond.code x code maxLocals ret, Jvm.Cond.code ({ cls := "com/example/edgesheet/edgesheet/core/ByteSourceReadVarintPinLaw", name := "put", desc := "([BIIIJ)V" } : Jvm.MethodName) method_2_code (8 : Nat) (Option.none : Option Jvm.ClassFile.FieldType), Jvm.Cond.code ({ cls := "com/example/edgesheet/edgesheet/core/ByteSource", name := "<init>", desc := "()V" } : Jvm.MethodName) prog_6_method_1_code (1 : Nat) (Option.none : Option Jvm.ClassFile.FieldType), Jvm.Cond.code ({ cls := "java/lang/Object", name := "<init>", desc := "()V" } : Jvm.MethodName) object_method_1_code (1 : Nat) (Option.none : Option Jvm.ClassFile.FieldType), Jvm.Cond.code ({ cls := "com/example/edgesheet/edgesheet/core/ByteSource", name := "reset", desc := "([BI)V" } : Jvm.MethodName) prog_6_method_2_code (3 : Nat) (Option.none : Option Jvm.ClassFile.FieldType), Jvm.Cond.code ({ cls := "com/example/edgesheet/edgesheet/core/ByteSource", name := "readVarint", desc := "()J" } : Jvm.MethodName) prog_6_method_7_code (5 : Nat) (Option.some Jvm.ClassFile.FieldType.long), Jvm.Cond.code ({ cls := "com/example/edgesheet/edgesheet/core/ByteSource", name := "position", desc := "()I" } : Jvm.MethodName) prog_6_method_4_code (1 : Nat) (Option.some Jvm.ClassFile.FieldType.int)]
set_option maxRecDepth 65536 in
theorem codes_eq : words1.filter isCode = codes1 := rfl
theorem w_codes : ∀ c ∈ words1.filter isCode, c.before args0 about1 = true := by
  rw [codes_eq]
  intro c hc
  simp only [codes1, List.mem_cons, List.not_mem_nil, or_false] at hc
  rcases hc with rfl | rfl | rfl | rfl | rfl | rfl | rfl
  · exact w_c0
  · exact w_c1
  · exact w_c2
  · exact w_c3
  · exact w_c4
  · exact w_c5
  · exact w_c6
set_option maxRecDepth 65536 in
theorem w_t1 : (words1.take 24).all (fun c => isCode c || c.before args0 about1) = true := by decide +kernel
set_option maxRecDepth 65536 in
theorem w_t2 : (words1.drop 24).all (fun c => isCode c || c.before args0 about1) = true := by decide +kernel
theorem w_tables : (allAtoms (Jvm.Cond.code x code maxLocals ret :: tables_1)).before args0 about1 = true := by
  rw [allAtoms_all]
  show words1.all (fun c => c.before args0 about1) = true
  refine all_split ?_ w_codes
  rw [← List.take_append_drop 24 words1, List.all_append, w_t1, w_t2]
  rfl
set_option maxRecDepth 65536 in
theorem w_case : (Jvm.Cond.and given_1 narrow_1).before args0 about1 = true := by decide +kernel
theorem w_applies : (headSpec (Jvm.Cond.code x code maxLocals ret :: tables_1) room_1).applies x e0.platform about1 = true :=
  (Spec.applies_iff w_frames).mpr ⟨w_running, w_runnable, w_alone, w_named, w_hears, w_ripe, w_room, w_tables⟩
theorem atStart : AtStart classFile x code maxLocals ret World_1 tables_1 room_1 Calls_1 rest_1 Pre_1 launch0 p0 e0 about1 theMethod args0 below0 :=
  ⟨lists_1, trivial, launch0.admits_env _ _ _, launch0.least_env, fairChoices_fair.cas, fairChoices_fair.clock, w_frames, w_args, w_heap, w_applies, trivial, trivial, w_case⟩
end start1
theorem witness_1 : WitnessClaimed_1 := ⟨start1.p0, start1.e0, start1.about1, start1.theMethod, start1.args0, start1.below0, start1.atStart⟩
end Jvm.Pilot.@@N@@

import JvmDerived
import JvmDerived.Pilot.@@N@@Statement
import JvmDerived.Pilot.@@N@@Code
set_option linter.unusedVariables false
set_option linter.unusedSimpArgs false
@@BLOCK:NumsL.lean.txt@@
namespace Jvm.Pilot.@@N@@
open Jvm Jvm.ClassFile Sem Op Lib Jvm.Free Jvm.Stand Jvm.LawKit Jvm.RoadKit Bundle Jvm.Pilot.@@N@@.Jvm.D
section Own
variable {p : Program} {l : Launch} {e : Env} {R : Room} {s : State} {m : MethodId} {args : Array Value} {below : List Frame} {meth : Method} {c : Code} {Z : State} {a0 : Array Value} {own nm : String} {bs : ByteArray} {ml : Nat} {rt : Option FieldType} {n0 kc ks : Nat} {Q : Option Value → Heap → Prop} {F : Outcome → State → Prop} {T : State} {h : Heap} {k n : Nat} {pc pc' pc2 : Nat} {ls ls' : Array Slot} {st : List Value}
/-- all that a walk knows where it stands -/
def Here (p : Program) (l : Launch) (e : Env) (R : Room) (s : State) (m : MethodId) (args : Array Value) (below : List Frame) (meth : Method) (c : Code) (Z : State) (own nm : String) (bs : ByteArray) (ml : Nat) (rt : Option FieldType) (n0 : Nat) (T : State) (h : Heap) (k n : Nat) : Prop :=
  (p.tables.exec = Jvm.exec ∧ c.code = bs ∧ c.maxLocals = ml ∧ Z.Warmed39 s.vm ∧ s.vm.findClass own = some m.cls ∧ meth.name = nm ∧ meth.sig.returnType = rt ∧ meth.locks = false) ∧ n0 ≤ h.size ∧ T.heap = h ∧ ∃ locs, Stand p l e R s m args below meth c T locs k n ∧ Fr n0 locs
/-- from here the method returns, as Q says -/
def Run (p : Program) (e : Env) (below : List Frame) (F : Outcome → State → Prop) (T : State) (g : JFrame) : Prop :=
  ∃ s₂ o, Steps p.tables e below (T.setTop g) s₂ ∧ s₂.status = .running ∧ Ended s₂ below o ∧ F o s₂
/-- what a body's end owes -/
def Fnl (s : State) (n0 kc ks : Nat) (Q : Option Value → Heap → Prop) (o : Outcome) (s₂ : State) : Prop := ∃ v L, o = .returned v ∧ (Q v s₂.heap ∧ n0 ≤ s₂.heap.size ∧ Fr n0 L) ∧ FrameEnd s o s₂ L kc ks
/-- a body's contract -/
def Con (l : Launch) (Z : State) (y : MethodName) (bs : ByteArray) (ml : Nat) (rt : Option FieldType) (rm : Room) (as : Array Value) (h0 : Heap) (n0 kc ks : Nat) (Q : Option Value → Heap → Prop) : Prop :=
  ∀ ws, MetFree l y (head1 (Jvm.Cond.code y bs ml rt :: ws) rm) (fun a U => a = as ∧ Z.Warmed39 U.vm ∧ U.heap = h0) (fun _ _ _ _ _ => True) (fun _ U o U' => ∃ v L, o = .returned v ∧ (Q v U'.heap ∧ n0 ≤ U'.heap.size ∧ Fr n0 L) ∧ FrameEnd U o U' L kc ks)
theorem Run.of {T' : State} {g g' : JFrame} (q : ∀ t, Steps p.tables e below (T'.setTop g') t → Steps p.tables e below (T.setTop g) t) (r : Run p e below F T' g') : Run p e below F T g := by
  obtain ⟨s₂, o, w, r⟩ := r; exact ⟨s₂, o, q _ w, r⟩
theorem Con.of_body {y : MethodName} {rm : Room} {as : Array Value} (hp : plainName y.cls = true) (hef : ∀ m, entryFrame m as ml = mkF m 0 ls []) (Z0 : n0 ≤ h.size)
    (body : ∀ p e s m below meth c T, Here p l e rm s m as below meth c Z y.cls y.name bs ml rt n0 T h 0 0 → Run p e below (Fnl s n0 kc ks Q) T (mkF m 0 ls [])) : Con l Z y bs ml rt rm as h n0 kc ks Q := by
  intro ws
  refine MetFree.of_bodySF (plainFor_of_name hp) hisR ?_
  intro p e s m args below meth c s₁ Bd hml0 hP hK
  obtain ⟨rfl, hZ, hh⟩ := hP
  have e0 : s₁.heap = h := by rw [← hh, Bd.state]; rfl
  obtain ⟨s₂, o, q, r⟩ := body p e s m below meth c s₁ ⟨⟨Bd.exec, Bd.bytes, hml0, hZ, findClass_of_methodNamed Bd.named, (name_of_methodNamed Bd.named Bd.method).1, Bd.returns, Bd.notSynchronized⟩, Z0, e0, [], Stand.of_body Bd, Fr.nil n0⟩
  exact ⟨s₂, o, castTop (hef m) q, r⟩
theorem Here.sz (X : Here p l e R s m args below meth c Z own nm bs ml rt n0 T h k n) : n0 ≤ h.size := X.2.1
/-- the k-th word of the sheet -/
theorem wd (hw : ∀ d ∈ tables_1, d.before a0 Z = true) (i : Nat) {d : Jvm.Cond} (q : tables_1[i]? = some d) : d.before a0 Z = true := hw _ (List.mem_of_getElem? q)
def cnd : ClassFile.Cond → Int → Int → Prop
  | .eq, x, y => x = y
  | .ne, x, y => ¬ x = y
  | .lt, x, y => x < y
  | .ge, x, y => y ≤ x
  | .gt, x, y => y < x
  | .le, x, y => x ≤ y
theorem cnd_iff (cd : ClassFile.Cond) (x y : Int32) : if_icmp.holds cd x y = true ↔ cnd cd x.toInt y.toInt := by
  cases cd <;> simp [if_icmp.holds, cnd, Int32.lt_iff_toInt_lt, Int32.le_iff_toInt_le, ← Int32.toInt_inj]
theorem r_aloadN (X : Here p l e R s m args below meth c Z own nm bs ml rt n0 T h k n) {i : Fin 4} {a : Addr} (hd : decode bs pc = .ok (.aload_n i, 1)) (hl : ls[i.val]? = some (.val (.ref a))) (hp : pc + 1 = pc') (r : Run p e below F T (mkF m pc' ls (.ref a :: st))) : Run p e below F T (mkF m pc ls st) := by
  obtain ⟨⟨hx, hby, hml, hZ, hown, hnm, hret, hlk⟩, hs0, eT, locs, S, N⟩ := X
  subst hp
  exact Run.of (fun t q => XS.aloadN S.here hx rfl (hb hby hd) hl rfl q) r
theorem r_aload (X : Here p l e R s m args below meth c Z own nm bs ml rt n0 T h k n) {i : Nat} {a : Addr} (hd : decode bs pc = .ok (.aload i, 2)) (hl : ls[i]? = some (.val (.ref a))) (hp : pc + 2 = pc') (r : Run p e below F T (mkF m pc' ls (.ref a :: st))) : Run p e below F T (mkF m pc ls st) := by
  obtain ⟨⟨hx, hby, hml, hZ, hown, hnm, hret, hlk⟩, hs0, eT, locs, S, N⟩ := X
  subst hp
  exact Run.of (fun t q => XS.aload S.here hx rfl (hb hby hd) hl rfl q) r
theorem r_iloadN (X : Here p l e R s m args below meth c Z own nm bs ml rt n0 T h k n) {i : Fin 4} {v : Int32} (hd : decode bs pc = .ok (.iload_n i, 1)) (hl : ls[i.val]? = some (.val (.int v))) (hp : pc + 1 = pc') (r : Run p e below F T (mkF m pc' ls (.int v :: st))) : Run p e below F T (mkF m pc ls st) := by
  obtain ⟨⟨hx, hby, hml, hZ, hown, hnm, hret, hlk⟩, hs0, eT, locs, S, N⟩ := X
  subst hp
  exact Run.of (fun t q => XS.iloadN S.here hx rfl (hb hby hd) hl q) r
theorem r_iload (X : Here p l e R s m args below meth c Z own nm bs ml rt n0 T h k n) {i : Nat} {v : Int32} (hd : decode bs pc = .ok (.iload i, 2)) (hl : ls[i]? = some (.val (.int v))) (hp : pc + 2 = pc') (r : Run p e below F T (mkF m pc' ls (.int v :: st))) : Run p e below F T (mkF m pc ls st) := by
  obtain ⟨⟨hx, hby, hml, hZ, hown, hnm, hret, hlk⟩, hs0, eT, locs, S, N⟩ := X
  subst hp
  exact Run.of (fun t q => XS.iload S.here hx rfl (hb hby hd) hl q) r
theorem r_lloadN (X : Here p l e R s m args below meth c Z own nm bs ml rt n0 T h k n) {i : Fin 4} {v : Int64} (hd : decode bs pc = .ok (.lload_n i, 1)) (hl : ls[i.val]? = some (.val (.long v))) (hp : pc + 1 = pc') (r : Run p e below F T (mkF m pc' ls (.long v :: st))) : Run p e below F T (mkF m pc ls st) := by
  obtain ⟨⟨hx, hby, hml, hZ, hown, hnm, hret, hlk⟩, hs0, eT, locs, S, N⟩ := X
  subst hp
  exact Run.of (fun t q => XT.lloadN S.here hx rfl (hb hby hd) hl q) r
theorem r_lload (X : Here p l e R s m args below meth c Z own nm bs ml rt n0 T h k n) {i : Nat} {v : Int64} (hd : decode bs pc = .ok (.lload i, 2)) (hl : ls[i]? = some (.val (.long v))) (hp : pc + 2 = pc') (r : Run p e below F T (mkF m pc' ls (.long v :: st))) : Run p e below F T (mkF m pc ls st) := by
  obtain ⟨⟨hx, hby, hml, hZ, hown, hnm, hret, hlk⟩, hs0, eT, locs, S, N⟩ := X
  subst hp
  exact Run.of (fun t q => XT.lload S.here hx rfl (hb hby hd) hl q) r
theorem r_istoreN (X : Here p l e R s m args below meth c Z own nm bs ml rt n0 T h k n) {i : Fin 4} {v : Int32} (hd : decode bs pc = .ok (.istore_n i, 1)) (hl : storeLocals ls i.val (.int v) = some ls') (hp : pc + 1 = pc') (r : Run p e below F T (mkF m pc' ls' st)) : Run p e below F T (mkF m pc ls (.int v :: st)) := by
  obtain ⟨⟨hx, hby, hml, hZ, hown, hnm, hret, hlk⟩, hs0, eT, locs, S, N⟩ := X
  subst hp
  exact Run.of (fun t q => XS.istoreN S.here hx rfl (hb hby hd) rfl hl q) r
theorem r_istore (X : Here p l e R s m args below meth c Z own nm bs ml rt n0 T h k n) {i : Nat} {v : Int32} (hd : decode bs pc = .ok (.istore i, 2)) (hl : storeLocals ls i (.int v) = some ls') (hp : pc + 2 = pc') (r : Run p e below F T (mkF m pc' ls' st)) : Run p e below F T (mkF m pc ls (.int v :: st)) := by
  obtain ⟨⟨hx, hby, hml, hZ, hown, hnm, hret, hlk⟩, hs0, eT, locs, S, N⟩ := X
  subst hp
  exact Run.of (fun t q => XS.istore S.here hx rfl (hb hby hd) rfl hl q) r
theorem r_lstoreN (X : Here p l e R s m args below meth c Z own nm bs ml rt n0 T h k n) {i : Fin 4} {v : Int64} (hd : decode bs pc = .ok (.lstore_n i, 1)) (hl : storeLocals ls i.val (.long v) = some ls') (hp : pc + 1 = pc') (r : Run p e below F T (mkF m pc' ls' st)) : Run p e below F T (mkF m pc ls (.long v :: st)) := by
  obtain ⟨⟨hx, hby, hml, hZ, hown, hnm, hret, hlk⟩, hs0, eT, locs, S, N⟩ := X
  subst hp
  exact Run.of (fun t q => XT.lstoreN S.here hx rfl (hb hby hd) rfl hl q) r
theorem r_lstore (X : Here p l e R s m args below meth c Z own nm bs ml rt n0 T h k n) {i : Nat} {v : Int64} (hd : decode bs pc = .ok (.lstore i, 2)) (hl : storeLocals ls i (.long v) = some ls') (hp : pc + 2 = pc') (r : Run p e below F T (mkF m pc' ls' st)) : Run p e below F T (mkF m pc ls (.long v :: st)) := by
  obtain ⟨⟨hx, hby, hml, hZ, hown, hnm, hret, hlk⟩, hs0, eT, locs, S, N⟩ := X
  subst hp
  exact Run.of (fun t q => XT.lstore S.here hx rfl (hb hby hd) rfl hl q) r
theorem r_astoreN (X : Here p l e R s m args below meth c Z own nm bs ml rt n0 T h k n) {i : Fin 4} {v : Addr} (hd : decode bs pc = .ok (.astore_n i, 1)) (hl : storeLocals ls i.val (.ref v) = some ls') (hp : pc + 1 = pc') (r : Run p e below F T (mkF m pc' ls' st)) : Run p e below F T (mkF m pc ls (.ref v :: st)) := by
  obtain ⟨⟨hx, hby, hml, hZ, hown, hnm, hret, hlk⟩, hs0, eT, locs, S, N⟩ := X
  subst hp
  exact Run.of (fun t q => XS.astoreN S.here hx rfl (hb hby hd) rfl rfl hl q) r
theorem r_astore (X : Here p l e R s m args below meth c Z own nm bs ml rt n0 T h k n) {i : Nat} {v : Addr} (hd : decode bs pc = .ok (.astore i, 2)) (hl : storeLocals ls i (.ref v) = some ls') (hp : pc + 2 = pc') (r : Run p e below F T (mkF m pc' ls' st)) : Run p e below F T (mkF m pc ls (.ref v :: st)) := by
  obtain ⟨⟨hx, hby, hml, hZ, hown, hnm, hret, hlk⟩, hs0, eT, locs, S, N⟩ := X
  subst hp
  exact Run.of (fun t q => XS.astore S.here hx rfl (hb hby hd) rfl rfl hl q) r
theorem r_iconst (X : Here p l e R s m args below meth c Z own nm bs ml rt n0 T h k n) {i : Int} {v : Int32} (hd : decode bs pc = .ok (.iconst i, 1)) (hv : Int32.ofInt i = v) (hp : pc + 1 = pc') (r : Run p e below F T (mkF m pc' ls (.int v :: st))) : Run p e below F T (mkF m pc ls st) := by
  obtain ⟨⟨hx, hby, hml, hZ, hown, hnm, hret, hlk⟩, hs0, eT, locs, S, N⟩ := X
  subst hp
  exact Run.of (fun t q => XS.iconst S.here hx rfl (hb hby hd) (by rw [hv]; exact q)) r
theorem r_bipush (X : Here p l e R s m args below meth c Z own nm bs ml rt n0 T h k n) {i : Int} {v : Int32} (hd : decode bs pc = .ok (.bipush i, 2)) (hv : (Int8.ofInt i).toInt32 = v) (hp : pc + 2 = pc') (r : Run p e below F T (mkF m pc' ls (.int v :: st))) : Run p e below F T (mkF m pc ls st) := by
  obtain ⟨⟨hx, hby, hml, hZ, hown, hnm, hret, hlk⟩, hs0, eT, locs, S, N⟩ := X
  subst hp
  exact Run.of (fun t q => XS.bipush S.here hx rfl (hb hby hd) (by rw [hv]; exact q)) r
theorem r_sipush (X : Here p l e R s m args below meth c Z own nm bs ml rt n0 T h k n) {i : Int} {v : Int32} (hd : decode bs pc = .ok (.sipush i, 3)) (hv : (Int16.ofInt i).toInt32 = v) (hp : pc + 3 = pc') (r : Run p e below F T (mkF m pc' ls (.int v :: st))) : Run p e below F T (mkF m pc ls st) := by
  obtain ⟨⟨hx, hby, hml, hZ, hown, hnm, hret, hlk⟩, hs0, eT, locs, S, N⟩ := X
  subst hp
  exact Run.of (fun t q => XS.sipush S.here hx rfl (hb hby hd) (by rw [hv]; exact q)) r
theorem r_lconst (X : Here p l e R s m args below meth c Z own nm bs ml rt n0 T h k n) {i : Fin 2} {v : Int64} (hd : decode bs pc = .ok (.lconst i, 1)) (hv : Int64.ofNat i = v) (hp : pc + 1 = pc') (r : Run p e below F T (mkF m pc' ls (.long v :: st))) : Run p e below F T (mkF m pc ls st) := by
  obtain ⟨⟨hx, hby, hml, hZ, hown, hnm, hret, hlk⟩, hs0, eT, locs, S, N⟩ := X
  subst hp
  exact Run.of (fun t q => XT.lconst S.here hx rfl (hb hby hd) (by rw [hv]; exact q)) r
theorem r_ldcI (X : Here p l e R s m args below meth c Z own nm bs ml rt n0 T h k n) {i : Nat} {v : Int32} (hd : decode bs pc = .ok (.ldc i, 2)) (w : (Jvm.Cond.constant own i v).before a0 Z = true) (hp : pc + 2 = pc') (r : Run p e below F T (mkF m pc' ls (.int v :: st))) : Run p e below F T (mkF m pc ls st) := by
  obtain ⟨⟨hx, hby, hml, hZ, hown, hnm, hret, hlk⟩, hs0, eT, locs, S, N⟩ := X
  subst hp
  exact Run.of (fun t q => S.ldcI hx hown (mvT hZ w) rfl (hb hby hd) q) r
theorem r_ldc2J (X : Here p l e R s m args below meth c Z own nm bs ml rt n0 T h k n) {i : Nat} {v : Int64} (hd : decode bs pc = .ok (.ldc2_w i, 3)) (w : (Jvm.Cond.constantLong own i v).before a0 Z = true) (hp : pc + 3 = pc') (r : Run p e below F T (mkF m pc' ls (.long v :: st))) : Run p e below F T (mkF m pc ls st) := by
  obtain ⟨⟨hx, hby, hml, hZ, hown, hnm, hret, hlk⟩, hs0, eT, locs, S, N⟩ := X
  subst hp
  exact Run.of (fun t q => S.ldc2J hx hown (mvT hZ w) rfl (hb hby hd) q) r
theorem r_iadd (X : Here p l e R s m args below meth c Z own nm bs ml rt n0 T h k n) {x y z : Int32} (hd : decode bs pc = .ok (.iadd, 1)) (hv : x + y = z) (hp : pc + 1 = pc') (r : Run p e below F T (mkF m pc' ls (.int z :: st))) : Run p e below F T (mkF m pc ls (.int y :: .int x :: st)) := by
  obtain ⟨⟨hx, hby, hml, hZ, hown, hnm, hret, hlk⟩, hs0, eT, locs, S, N⟩ := X
  subst hp
  exact Run.of (fun t q => XS.iadd S.here hx rfl (hb hby hd) rfl (by rw [hv]; exact q)) r
theorem r_isub (X : Here p l e R s m args below meth c Z own nm bs ml rt n0 T h k n) {x y z : Int32} (hd : decode bs pc = .ok (.isub, 1)) (hv : x - y = z) (hp : pc + 1 = pc') (r : Run p e below F T (mkF m pc' ls (.int z :: st))) : Run p e below F T (mkF m pc ls (.int y :: .int x :: st)) := by
  obtain ⟨⟨hx, hby, hml, hZ, hown, hnm, hret, hlk⟩, hs0, eT, locs, S, N⟩ := X
  subst hp
  exact Run.of (fun t q => XS.isub S.here hx rfl (hb hby hd) rfl (by rw [hv]; exact q)) r
theorem r_imul (X : Here p l e R s m args below meth c Z own nm bs ml rt n0 T h k n) {x y z : Int32} (hd : decode bs pc = .ok (.imul, 1)) (hv : x * y = z) (hp : pc + 1 = pc') (r : Run p e below F T (mkF m pc' ls (.int z :: st))) : Run p e below F T (mkF m pc ls (.int y :: .int x :: st)) := by
  obtain ⟨⟨hx, hby, hml, hZ, hown, hnm, hret, hlk⟩, hs0, eT, locs, S, N⟩ := X
  subst hp
  exact Run.of (fun t q => XS.imul S.here hx rfl (hb hby hd) rfl (by rw [hv]; exact q)) r
theorem r_iand (X : Here p l e R s m args below meth c Z own nm bs ml rt n0 T h k n) {x y z : Int32} (hd : decode bs pc = .ok (.iand, 1)) (hv : x &&& y = z) (hp : pc + 1 = pc') (r : Run p e below F T (mkF m pc' ls (.int z :: st))) : Run p e below F T (mkF m pc ls (.int y :: .int x :: st)) := by
  obtain ⟨⟨hx, hby, hml, hZ, hown, hnm, hret, hlk⟩, hs0, eT, locs, S, N⟩ := X
  subst hp
  exact Run.of (fun t q => XS.iand S.here hx rfl (hb hby hd) rfl (by rw [hv]; exact q)) r
theorem r_ior (X : Here p l e R s m args below meth c Z own nm bs ml rt n0 T h k n) {x y z : Int32} (hd : decode bs pc = .ok (.ior, 1)) (hv : x ||| y = z) (hp : pc + 1 = pc') (r : Run p e below F T (mkF m pc' ls (.int z :: st))) : Run p e below F T (mkF m pc ls (.int y :: .int x :: st)) := by
  obtain ⟨⟨hx, hby, hml, hZ, hown, hnm, hret, hlk⟩, hs0, eT, locs, S, N⟩ := X
  subst hp
  exact Run.of (fun t q => XT.ior S.here hx rfl (hb hby hd) rfl (by rw [hv]; exact q)) r
theorem r_ixor (X : Here p l e R s m args below meth c Z own nm bs ml rt n0 T h k n) {x y z : Int32} (hd : decode bs pc = .ok (.ixor, 1)) (hv : x ^^^ y = z) (hp : pc + 1 = pc') (r : Run p e below F T (mkF m pc' ls (.int z :: st))) : Run p e below F T (mkF m pc ls (.int y :: .int x :: st)) := by
  obtain ⟨⟨hx, hby, hml, hZ, hown, hnm, hret, hlk⟩, hs0, eT, locs, S, N⟩ := X
  subst hp
  exact Run.of (fun t q => XT.ixor S.here hx rfl (hb hby hd) rfl (by rw [hv]; exact q)) r
theorem r_ishl (X : Here p l e R s m args below meth c Z own nm bs ml rt n0 T h k n) {x y z : Int32} (hd : decode bs pc = .ok (.ishl, 1)) (hv : x <<< (y &&& 31) = z) (hp : pc + 1 = pc') (r : Run p e below F T (mkF m pc' ls (.int z :: st))) : Run p e below F T (mkF m pc ls (.int y :: .int x :: st)) := by
  obtain ⟨⟨hx, hby, hml, hZ, hown, hnm, hret, hlk⟩, hs0, eT, locs, S, N⟩ := X
  subst hp
  exact Run.of (fun t q => XT.ishl S.here hx rfl (hb hby hd) rfl (by rw [hv]; exact q)) r
theorem r_ishr (X : Here p l e R s m args below meth c Z own nm bs ml rt n0 T h k n) {x y z : Int32} (hd : decode bs pc = .ok (.ishr, 1)) (hv : x >>> (y &&& 31) = z) (hp : pc + 1 = pc') (r : Run p e below F T (mkF m pc' ls (.int z :: st))) : Run p e below F T (mkF m pc ls (.int y :: .int x :: st)) := by
  obtain ⟨⟨hx, hby, hml, hZ, hown, hnm, hret, hlk⟩, hs0, eT, locs, S, N⟩ := X
  subst hp
  exact Run.of (fun t q => XT.ishr S.here hx rfl (hb hby hd) rfl (by rw [hv]; exact q)) r
theorem r_iushr (X : Here p l e R s m args below meth c Z own nm bs ml rt n0 T h k n) {x y z : Int32} (hd : decode bs pc = .ok (.iushr, 1)) (hv : XT.ushr x y = z) (hp : pc + 1 = pc') (r : Run p e below F T (mkF m pc' ls (.int z :: st))) : Run p e below F T (mkF m pc ls (.int y :: .int x :: st)) := by
  obtain ⟨⟨hx, hby, hml, hZ, hown, hnm, hret, hlk⟩, hs0, eT, locs, S, N⟩ := X
  subst hp
  exact Run.of (fun t q => XT.iushr S.here hx rfl (hb hby hd) rfl (by rw [hv]; exact q)) r
theorem r_irem (X : Here p l e R s m args below meth c Z own nm bs ml rt n0 T h k n) {x y z : Int32} (hd : decode bs pc = .ok (.irem, 1)) (hy : y ≠ 0) (hv : x % y = z) (hp : pc + 1 = pc') (r : Run p e below F T (mkF m pc' ls (.int z :: st))) : Run p e below F T (mkF m pc ls (.int y :: .int x :: st)) := by
  obtain ⟨⟨hx, hby, hml, hZ, hown, hnm, hret, hlk⟩, hs0, eT, locs, S, N⟩ := X
  subst hp
  exact Run.of (fun t q => iremM S hx rfl (hb hby hd) rfl hy (by rw [hv]; exact q)) r
theorem r_idiv (X : Here p l e R s m args below meth c Z own nm bs ml rt n0 T h k n) {x y z : Int32} (hd : decode bs pc = .ok (.idiv, 1)) (hy : y ≠ 0) (hv : x / y = z) (hp : pc + 1 = pc') (r : Run p e below F T (mkF m pc' ls (.int z :: st))) : Run p e below F T (mkF m pc ls (.int y :: .int x :: st)) := by
  obtain ⟨⟨hx, hby, hml, hZ, hown, hnm, hret, hlk⟩, hs0, eT, locs, S, N⟩ := X
  subst hp
  exact Run.of (fun t q => XS.idiv S.here hx rfl (hb hby hd) rfl hy (by rw [hv]; exact q)) r
theorem r_ladd (X : Here p l e R s m args below meth c Z own nm bs ml rt n0 T h k n) {x y z : Int64} (hd : decode bs pc = .ok (.ladd, 1)) (hv : x + y = z) (hp : pc + 1 = pc') (r : Run p e below F T (mkF m pc' ls (.long z :: st))) : Run p e below F T (mkF m pc ls (.long y :: .long x :: st)) := by
  obtain ⟨⟨hx, hby, hml, hZ, hown, hnm, hret, hlk⟩, hs0, eT, locs, S, N⟩ := X
  subst hp
  exact Run.of (fun t q => XT.ladd S.here hx rfl (hb hby hd) rfl (by rw [hv]; exact q)) r
theorem r_lsub (X : Here p l e R s m args below meth c Z own nm bs ml rt n0 T h k n) {x y z : Int64} (hd : decode bs pc = .ok (.lsub, 1)) (hv : x - y = z) (hp : pc + 1 = pc') (r : Run p e below F T (mkF m pc' ls (.long z :: st))) : Run p e below F T (mkF m pc ls (.long y :: .long x :: st)) := by
  obtain ⟨⟨hx, hby, hml, hZ, hown, hnm, hret, hlk⟩, hs0, eT, locs, S, N⟩ := X
  subst hp
  exact Run.of (fun t q => XT.lsub S.here hx rfl (hb hby hd) rfl (by rw [hv]; exact q)) r
theorem r_lmul (X : Here p l e R s m args below meth c Z own nm bs ml rt n0 T h k n) {x y z : Int64} (hd : decode bs pc = .ok (.lmul, 1)) (hv : x * y = z) (hp : pc + 1 = pc') (r : Run p e below F T (mkF m pc' ls (.long z :: st))) : Run p e below F T (mkF m pc ls (.long y :: .long x :: st)) := by
  obtain ⟨⟨hx, hby, hml, hZ, hown, hnm, hret, hlk⟩, hs0, eT, locs, S, N⟩ := X
  subst hp
  exact Run.of (fun t q => XT.lmul S.here hx rfl (hb hby hd) rfl (by rw [hv]; exact q)) r
theorem r_land (X : Here p l e R s m args below meth c Z own nm bs ml rt n0 T h k n) {x y z : Int64} (hd : decode bs pc = .ok (.land, 1)) (hv : x &&& y = z) (hp : pc + 1 = pc') (r : Run p e below F T (mkF m pc' ls (.long z :: st))) : Run p e below F T (mkF m pc ls (.long y :: .long x :: st)) := by
  obtain ⟨⟨hx, hby, hml, hZ, hown, hnm, hret, hlk⟩, hs0, eT, locs, S, N⟩ := X
  subst hp
  exact Run.of (fun t q => XT.land S.here hx rfl (hb hby hd) rfl (by rw [hv]; exact q)) r
theorem r_lor (X : Here p l e R s m args below meth c Z own nm bs ml rt n0 T h k n) {x y z : Int64} (hd : decode bs pc = .ok (.lor, 1)) (hv : x ||| y = z) (hp : pc + 1 = pc') (r : Run p e below F T (mkF m pc' ls (.long z :: st))) : Run p e below F T (mkF m pc ls (.long y :: .long x :: st)) := by
  obtain ⟨⟨hx, hby, hml, hZ, hown, hnm, hret, hlk⟩, hs0, eT, locs, S, N⟩ := X
  subst hp
  exact Run.of (fun t q => XT.lor S.here hx rfl (hb hby hd) rfl (by rw [hv]; exact q)) r
theorem r_lxor (X : Here p l e R s m args below meth c Z own nm bs ml rt n0 T h k n) {x y z : Int64} (hd : decode bs pc = .ok (.lxor, 1)) (hv : x ^^^ y = z) (hp : pc + 1 = pc') (r : Run p e below F T (mkF m pc' ls (.long z :: st))) : Run p e below F T (mkF m pc ls (.long y :: .long x :: st)) := by
  obtain ⟨⟨hx, hby, hml, hZ, hown, hnm, hret, hlk⟩, hs0, eT, locs, S, N⟩ := X
  subst hp
  exact Run.of (fun t q => XT.lxor S.here hx rfl (hb hby hd) rfl (by rw [hv]; exact q)) r
theorem r_ldiv (X : Here p l e R s m args below meth c Z own nm bs ml rt n0 T h k n) {x y z : Int64} (hd : decode bs pc = .ok (.ldiv, 1)) (hy : y ≠ 0) (hv : x / y = z) (hp : pc + 1 = pc') (r : Run p e below F T (mkF m pc' ls (.long z :: st))) : Run p e below F T (mkF m pc ls (.long y :: .long x :: st)) := by
  obtain ⟨⟨hx, hby, hml, hZ, hown, hnm, hret, hlk⟩, hs0, eT, locs, S, N⟩ := X
  subst hp
  exact Run.of (fun t q => XT.ldiv S.here hx rfl (hb hby hd) rfl hy (by rw [hv]; exact q)) r
theorem r_lrem (X : Here p l e R s m args below meth c Z own nm bs ml rt n0 T h k n) {x y z : Int64} (hd : decode bs pc = .ok (.lrem, 1)) (hy : y ≠ 0) (hv : x - (x / y) * y = z) (hp : pc + 1 = pc') (r : Run p e below F T (mkF m pc' ls (.long z :: st))) : Run p e below F T (mkF m pc ls (.long y :: .long x :: st)) := by
  obtain ⟨⟨hx, hby, hml, hZ, hown, hnm, hret, hlk⟩, hs0, eT, locs, S, N⟩ := X
  subst hp
  exact Run.of (fun t q => XT.lrem S.here hx rfl (hb hby hd) rfl hy (by rw [hv]; exact q)) r
theorem r_lshl (X : Here p l e R s m args below meth c Z own nm bs ml rt n0 T h k n) {x z : Int64} {y : Int32} (hd : decode bs pc = .ok (.lshl, 1)) (hv : x <<< (y.toInt64 &&& 63) = z) (hp : pc + 1 = pc') (r : Run p e below F T (mkF m pc' ls (.long z :: st))) : Run p e below F T (mkF m pc ls (.int y :: .long x :: st)) := by
  obtain ⟨⟨hx, hby, hml, hZ, hown, hnm, hret, hlk⟩, hs0, eT, locs, S, N⟩ := X
  subst hp
  exact Run.of (fun t q => XT.lshl S.here hx rfl (hb hby hd) rfl (by rw [hv]; exact q)) r
theorem r_lshr (X : Here p l e R s m args below meth c Z own nm bs ml rt n0 T h k n) {x z : Int64} {y : Int32} (hd : decode bs pc = .ok (.lshr, 1)) (hv : x >>> (y.toInt64 &&& 63) = z) (hp : pc + 1 = pc') (r : Run p e below F T (mkF m pc' ls (.long z :: st))) : Run p e below F T (mkF m pc ls (.int y :: .long x :: st)) := by
  obtain ⟨⟨hx, hby, hml, hZ, hown, hnm, hret, hlk⟩, hs0, eT, locs, S, N⟩ := X
  subst hp
  exact Run.of (fun t q => XT.lshr S.here hx rfl (hb hby hd) rfl (by rw [hv]; exact q)) r
theorem r_lushr (X : Here p l e R s m args below meth c Z own nm bs ml rt n0 T h k n) {x z : Int64} {y : Int32} (hd : decode bs pc = .ok (.lushr, 1)) (hv : XT.ushrL x y = z) (hp : pc + 1 = pc') (r : Run p e below F T (mkF m pc' ls (.long z :: st))) : Run p e below F T (mkF m pc ls (.int y :: .long x :: st)) := by
  obtain ⟨⟨hx, hby, hml, hZ, hown, hnm, hret, hlk⟩, hs0, eT, locs, S, N⟩ := X
  subst hp
  exact Run.of (fun t q => XT.lushr S.here hx rfl (hb hby hd) rfl (by rw [hv]; exact q)) r
theorem r_i2b (X : Here p l e R s m args below meth c Z own nm bs ml rt n0 T h k n) {x z : Int32} (hd : decode bs pc = .ok (.i2b, 1)) (hv : x.toInt8.toInt32 = z) (hp : pc + 1 = pc') (r : Run p e below F T (mkF m pc' ls (.int z :: st))) : Run p e below F T (mkF m pc ls (.int x :: st)) := by
  obtain ⟨⟨hx, hby, hml, hZ, hown, hnm, hret, hlk⟩, hs0, eT, locs, S, N⟩ := X
  subst hp
  exact Run.of (fun t q => XT.i2b S.here hx rfl (hb hby hd) rfl (by rw [hv]; exact q)) r
theorem r_i2c (X : Here p l e R s m args below meth c Z own nm bs ml rt n0 T h k n) {x z : Int32} (hd : decode bs pc = .ok (.i2c, 1)) (hv : x.toUInt32.toUInt16.toUInt32.toInt32 = z) (hp : pc + 1 = pc') (r : Run p e below F T (mkF m pc' ls (.int z :: st))) : Run p e below F T (mkF m pc ls (.int x :: st)) := by
  obtain ⟨⟨hx, hby, hml, hZ, hown, hnm, hret, hlk⟩, hs0, eT, locs, S, N⟩ := X
  subst hp
  exact Run.of (fun t q => XT.i2c S.here hx rfl (hb hby hd) rfl (by rw [hv]; exact q)) r
theorem r_i2s (X : Here p l e R s m args below meth c Z own nm bs ml rt n0 T h k n) {x z : Int32} (hd : decode bs pc = .ok (.i2s, 1)) (hv : x.toInt16.toInt32 = z) (hp : pc + 1 = pc') (r : Run p e below F T (mkF m pc' ls (.int z :: st))) : Run p e below F T (mkF m pc ls (.int x :: st)) := by
  obtain ⟨⟨hx, hby, hml, hZ, hown, hnm, hret, hlk⟩, hs0, eT, locs, S, N⟩ := X
  subst hp
  exact Run.of (fun t q => XT.i2s S.here hx rfl (hb hby hd) rfl (by rw [hv]; exact q)) r
theorem r_i2l (X : Here p l e R s m args below meth c Z own nm bs ml rt n0 T h k n) {x : Int32} {z : Int64} (hd : decode bs pc = .ok (.i2l, 1)) (hv : x.toInt64 = z) (hp : pc + 1 = pc') (r : Run p e below F T (mkF m pc' ls (.long z :: st))) : Run p e below F T (mkF m pc ls (.int x :: st)) := by
  obtain ⟨⟨hx, hby, hml, hZ, hown, hnm, hret, hlk⟩, hs0, eT, locs, S, N⟩ := X
  subst hp
  exact Run.of (fun t q => XT.i2l S.here hx rfl (hb hby hd) rfl (by rw [hv]; exact q)) r
theorem r_l2i (X : Here p l e R s m args below meth c Z own nm bs ml rt n0 T h k n) {x : Int64} {z : Int32} (hd : decode bs pc = .ok (.l2i, 1)) (hv : x.toInt32 = z) (hp : pc + 1 = pc') (r : Run p e below F T (mkF m pc' ls (.int z :: st))) : Run p e below F T (mkF m pc ls (.long x :: st)) := by
  obtain ⟨⟨hx, hby, hml, hZ, hown, hnm, hret, hlk⟩, hs0, eT, locs, S, N⟩ := X
  subst hp
  exact Run.of (fun t q => XT.l2i S.here hx rfl (hb hby hd) rfl (by rw [hv]; exact q)) r
theorem r_lcmp (X : Here p l e R s m args below meth c Z own nm bs ml rt n0 T h k n) {x y : Int64} {z : Int32} (hd : decode bs pc = .ok (.lcmp, 1)) (hv : XT.cmpL x y = z) (hp : pc + 1 = pc') (r : Run p e below F T (mkF m pc' ls (.int z :: st))) : Run p e below F T (mkF m pc ls (.long y :: .long x :: st)) := by
  obtain ⟨⟨hx, hby, hml, hZ, hown, hnm, hret, hlk⟩, hs0, eT, locs, S, N⟩ := X
  subst hp
  exact Run.of (fun t q => XT.lcmp S.here hx rfl (hb hby hd) rfl (by rw [hv]; exact q)) r
theorem r_dup (X : Here p l e R s m args below meth c Z own nm bs ml rt n0 T h k n) {x : Value} (hd : decode bs pc = .ok (.dup, 1)) (hc : x.category = 1) (hp : pc + 1 = pc') (r : Run p e below F T (mkF m pc' ls (x :: x :: st))) : Run p e below F T (mkF m pc ls (x :: st)) := by
  obtain ⟨⟨hx, hby, hml, hZ, hown, hnm, hret, hlk⟩, hs0, eT, locs, S, N⟩ := X
  subst hp
  exact Run.of (fun t q => XS.dup S.here hx rfl (hb hby hd) rfl hc q) r
theorem r_dupX1 (X : Here p l e R s m args below meth c Z own nm bs ml rt n0 T h k n) {x y : Value} (hd : decode bs pc = .ok (.dup_x1, 1)) (hc : x.category = 1) (hc' : y.category = 1) (hp : pc + 1 = pc') (r : Run p e below F T (mkF m pc' ls (x :: y :: x :: st))) : Run p e below F T (mkF m pc ls (x :: y :: st)) := by
  obtain ⟨⟨hx, hby, hml, hZ, hown, hnm, hret, hlk⟩, hs0, eT, locs, S, N⟩ := X
  subst hp
  exact Run.of (fun t q => XT.dupX1 S.here hx rfl (hb hby hd) rfl hc hc' q) r
theorem r_pop (X : Here p l e R s m args below meth c Z own nm bs ml rt n0 T h k n) {x : Value} (hd : decode bs pc = .ok (.pop, 1)) (hc : x.category = 1) (hp : pc + 1 = pc') (r : Run p e below F T (mkF m pc' ls st)) : Run p e below F T (mkF m pc ls (x :: st)) := by
  obtain ⟨⟨hx, hby, hml, hZ, hown, hnm, hret, hlk⟩, hs0, eT, locs, S, N⟩ := X
  subst hp
  exact Run.of (fun t q => XT.pop S.here hx rfl (hb hby hd) rfl hc q) r
theorem r_iinc (X : Here p l e R s m args below meth c Z own nm bs ml rt n0 T h k n) {i : Nat} {d : Int} {x z : Int32} (hd : decode bs pc = .ok (.iinc i d, 3)) (hl : ls[i]? = some (.val (.int x))) (hv : x + Int32.ofInt d = z) (hl' : storeLocals ls i (.int z) = some ls') (hp : pc + 3 = pc') (r : Run p e below F T (mkF m pc' ls' st)) : Run p e below F T (mkF m pc ls st) := by
  obtain ⟨⟨hx, hby, hml, hZ, hown, hnm, hret, hlk⟩, hs0, eT, locs, S, N⟩ := X
  subst hp
  exact Run.of (fun t q => XS.iinc S.here hx rfl (hb hby hd) hl (by rw [hv]; exact hl') q) r
theorem r_goto (X : Here p l e R s m args below meth c Z own nm bs ml rt n0 T h k n) {o : Int} (hd : decode bs pc = .ok (.goto o, 3)) (ho : 0 ≤ (pc : Int) + o) (hp : ((pc : Int) + o).toNat = pc') (r : Run p e below F T (mkF m pc' ls st)) : Run p e below F T (mkF m pc ls st) := by
  obtain ⟨⟨hx, hby, hml, hZ, hown, hnm, hret, hlk⟩, hs0, eT, locs, S, N⟩ := X
  exact Run.of (fun t q => XS.goto S.here hx rfl rfl (hb hby hd) ho hp q) r
theorem r_icmp (X : Here p l e R s m args below meth c Z own nm bs ml rt n0 T h k n) {cd : ClassFile.Cond} {o : Int} (hd : decode bs pc = .ok (.if_icmp cd o, 3)) (ho : 0 ≤ (pc : Int) + o) (hp : ((pc : Int) + o).toNat = pc') (hp2 : pc + 3 = pc2) {x y : Int32} {a b : Int} (ha : x.toInt = a) (hb' : y.toInt = b) (yes : cnd cd a b → Run p e below F T (mkF m pc' ls st)) (no : ¬ cnd cd a b → Run p e below F T (mkF m pc2 ls st)) : Run p e below F T (mkF m pc ls (.int y :: .int x :: st)) := by
  obtain ⟨⟨hx, hby, hml, hZ, hown, hnm, hret, hlk⟩, hs0, eT, locs, S, N⟩ := X
  subst ha hb' hp2
  by_cases w : cnd cd x.toInt (y : Int32).toInt
  · exact Run.of (fun t q => XS.icmpYes S.here hx rfl rfl (hb hby hd) rfl (((cnd_iff cd x y).mpr w)) ho hp q) (yes w)
  · exact Run.of (fun t q => XS.icmpNo S.here hx rfl (hb hby hd) rfl ((Bool.eq_false_iff.mpr fun z => w ((cnd_iff cd x y).mp z))) q) (no w)
theorem r_icmpY (X : Here p l e R s m args below meth c Z own nm bs ml rt n0 T h k n) {cd : ClassFile.Cond} {o : Int} (hd : decode bs pc = .ok (.if_icmp cd o, 3)) (ho : 0 ≤ (pc : Int) + o) (hp : ((pc : Int) + o).toNat = pc') {x y : Int32} {a b : Int} (ha : x.toInt = a) (hb' : y.toInt = b) (w : cnd cd a b) (r : Run p e below F T (mkF m pc' ls st)) : Run p e below F T (mkF m pc ls (.int y :: .int x :: st)) :=
  r_icmp X hd ho hp rfl ha hb' (fun _ => r) (fun z => absurd w z)
theorem r_icmpN (X : Here p l e R s m args below meth c Z own nm bs ml rt n0 T h k n) {cd : ClassFile.Cond} {o : Int} (hd : decode bs pc = .ok (.if_icmp cd o, 3)) (ho : 0 ≤ (pc : Int) + o) (hp2 : pc + 3 = pc2) {x y : Int32} {a b : Int} (ha : x.toInt = a) (hb' : y.toInt = b) (w : ¬ cnd cd a b) (r : Run p e below F T (mkF m pc2 ls st)) : Run p e below F T (mkF m pc ls (.int y :: .int x :: st)) :=
  r_icmp X hd ho rfl hp2 ha hb' (fun z => absurd z w) (fun _ => r)
theorem r_if (X : Here p l e R s m args below meth c Z own nm bs ml rt n0 T h k n) {cd : ClassFile.Cond} {o : Int} (hd : decode bs pc = .ok (.ifCond cd o, 3)) (ho : 0 ≤ (pc : Int) + o) (hp : ((pc : Int) + o).toNat = pc') (hp2 : pc + 3 = pc2) {x : Int32} {a b : Int} (ha : x.toInt = a) (hb' : (0 : Int32).toInt = b) (yes : cnd cd a b → Run p e below F T (mkF m pc' ls st)) (no : ¬ cnd cd a b → Run p e below F T (mkF m pc2 ls st)) : Run p e below F T (mkF m pc ls (.int x :: st)) := by
  obtain ⟨⟨hx, hby, hml, hZ, hown, hnm, hret, hlk⟩, hs0, eT, locs, S, N⟩ := X
  subst ha hb' hp2
  by_cases w : cnd cd x.toInt (0 : Int32).toInt
  · exact Run.of (fun t q => XS.ifYes S.here hx rfl rfl (hb hby hd) rfl ((if0 _ _).trans ((cnd_iff cd x 0).mpr w)) ho hp q) (yes w)
  · exact Run.of (fun t q => XS.ifNo S.here hx rfl (hb hby hd) rfl ((if0 _ _).trans (Bool.eq_false_iff.mpr fun z => w ((cnd_iff cd x 0).mp z))) q) (no w)
theorem r_ifY (X : Here p l e R s m args below meth c Z own nm bs ml rt n0 T h k n) {cd : ClassFile.Cond} {o : Int} (hd : decode bs pc = .ok (.ifCond cd o, 3)) (ho : 0 ≤ (pc : Int) + o) (hp : ((pc : Int) + o).toNat = pc') {x : Int32} {a b : Int} (ha : x.toInt = a) (hb' : (0 : Int32).toInt = b) (w : cnd cd a b) (r : Run p e below F T (mkF m pc' ls st)) : Run p e below F T (mkF m pc ls (.int x :: st)) :=
  r_if X hd ho hp rfl ha hb' (fun _ => r) (fun z => absurd w z)
theorem r_ifN (X : Here p l e R s m args below meth c Z own nm bs ml rt n0 T h k n) {cd : ClassFile.Cond} {o : Int} (hd : decode bs pc = .ok (.ifCond cd o, 3)) (ho : 0 ≤ (pc : Int) + o) (hp2 : pc + 3 = pc2) {x : Int32} {a b : Int} (ha : x.toInt = a) (hb' : (0 : Int32).toInt = b) (w : ¬ cnd cd a b) (r : Run p e below F T (mkF m pc2 ls st)) : Run p e below F T (mkF m pc ls (.int x :: st)) :=
  r_if X hd ho rfl hp2 ha hb' (fun z => absurd z w) (fun _ => r)
theorem r_acmpN (X : Here p l e R s m args below meth c Z own nm bs ml rt n0 T h k n) {cd : ACond} {o : Int} {x y : Addr} (hd : decode bs pc = .ok (.if_acmp cd o, 3)) (hc : XT.acmp cd (.ref x) (.ref y) = false) (hp : pc + 3 = pc') (r : Run p e below F T (mkF m pc' ls st)) : Run p e below F T (mkF m pc ls (.ref y :: .ref x :: st)) := by
  obtain ⟨⟨hx, hby, hml, hZ, hown, hnm, hret, hlk⟩, hs0, eT, locs, S, N⟩ := X
  subst hp
  exact Run.of (fun t q => XT.acmpNo S.here hx rfl (hb hby hd) rfl rfl rfl hc q) r
theorem r_retN {ft : FieldType} (X : Here p l e R s m args below meth c Z own nm bs ml (some ft) n0 T h k n) (ht : ft = .boolean ∨ ft = .byte ∨ ft = .char ∨ ft = .short) (hd : decode bs pc = .ok (.ireturn, 1)) {z w : Int32} (hz : nar ft z = w) (hQ : Q (some (.int w)) h) (hk : k ≤ kc) (hn : n ≤ ks) : Run p e below (Fnl s n0 kc ks Q) T (mkF m pc ls (.int z :: st)) := by
  obtain ⟨⟨hx, hby, hml, hZ, hown, hnm, hret, hlk⟩, hs0, eT, locs, S, N⟩ := X
  subst hz
  obtain ⟨fs, hr, hrun, hended, hW, hsame⟩ := S.leave (v := some (.int (nar ft z))) (fun w => by rw [hret] at w; cases w)
  refine ⟨_, _, ?_, hrun, hended, _, _, rfl, ⟨?_, ?_, N⟩, ⟨_, rfl⟩, hW, hsame.mono hk hn⟩
  · exact retN S hx hret ht (hb hby hd) hr
  · show Q _ T.heap
    rw [eT]; exact hQ
  · show n0 ≤ T.heap.size
    rw [eT]; exact hs0
theorem r_retI (X : Here p l e R s m args below meth c Z own nm bs ml (some .int) n0 T h k n) (hd : decode bs pc = .ok (.ireturn, 1)) {z : Int32} (hQ : Q (some (.int z)) h) (hk : k ≤ kc) (hn : n ≤ ks) : Run p e below (Fnl s n0 kc ks Q) T (mkF m pc ls (.int z :: st)) := by
  obtain ⟨⟨hx, hby, hml, hZ, hown, hnm, hret, hlk⟩, hs0, eT, locs, S, N⟩ := X
  obtain ⟨fs, hr, hrun, hended, hW, hsame⟩ := S.leave (v := some (.int z)) (fun w => by rw [hret] at w; cases w)
  refine ⟨_, _, ?_, hrun, hended, _, _, rfl, ⟨?_, ?_, N⟩, ⟨_, rfl⟩, hW, hsame.mono hk hn⟩
  · exact retOut S hx hret rfl (Or.inl ⟨rfl, Or.inl rfl, _, rfl⟩) (hb hby hd) hr
  · show Q _ T.heap
    rw [eT]; exact hQ
  · show n0 ≤ T.heap.size
    rw [eT]; exact hs0
theorem r_retL (X : Here p l e R s m args below meth c Z own nm bs ml (some .long) n0 T h k n) (hd : decode bs pc = .ok (.lreturn, 1)) {z : Int64} (hQ : Q (some (.long z)) h) (hk : k ≤ kc) (hn : n ≤ ks) : Run p e below (Fnl s n0 kc ks Q) T (mkF m pc ls (.long z :: st)) := by
  obtain ⟨⟨hx, hby, hml, hZ, hown, hnm, hret, hlk⟩, hs0, eT, locs, S, N⟩ := X
  obtain ⟨fs, hr, hrun, hended, hW, hsame⟩ := S.leave (v := some (.long z)) (fun w => by rw [hret] at w; cases w)
  refine ⟨_, _, ?_, hrun, hended, _, _, rfl, ⟨?_, ?_, N⟩, ⟨_, rfl⟩, hW, hsame.mono hk hn⟩
  · exact retOut S hx hret rfl (Or.inr (Or.inl ⟨rfl, rfl, _, rfl⟩)) (hb hby hd) hr
  · show Q _ T.heap
    rw [eT]; exact hQ
  · show n0 ≤ T.heap.size
    rw [eT]; exact hs0
theorem r_retA {ft : FieldType} (X : Here p l e R s m args below meth c Z own nm bs ml (some ft) n0 T h k n) (ht : ft.isReference = true) (hd : decode bs pc = .ok (.areturn, 1)) {a : Addr} (hQ : Q (some (.ref a)) h) (hk : k ≤ kc) (hn : n ≤ ks) : Run p e below (Fnl s n0 kc ks Q) T (mkF m pc ls (.ref a :: st)) := by
  obtain ⟨⟨hx, hby, hml, hZ, hown, hnm, hret, hlk⟩, hs0, eT, locs, S, N⟩ := X
  obtain ⟨fs, hr, hrun, hended, hW, hsame⟩ := S.leave (v := some (.ref a)) (fun w => by rw [hret] at w; cases w)
  refine ⟨_, _, ?_, hrun, hended, _, _, rfl, ⟨?_, ?_, N⟩, ⟨_, rfl⟩, hW, hsame.mono hk hn⟩
  · exact retOut S hx hret (by cases ft <;> first | rfl | (exfalso; revert ht; decide)) (Or.inr (Or.inr (Or.inr (Or.inr ⟨rfl, ht, rfl⟩)))) (hb hby hd) hr
  · show Q _ T.heap
    rw [eT]; exact hQ
  · show n0 ≤ T.heap.size
    rw [eT]; exact hs0
theorem r_ret (X : Here p l e R s m args below meth c Z own nm bs ml none n0 T h k n) (hd : decode bs pc = .ok (.return_, 1)) (hQ : Q none h) (hk : k ≤ kc) (hn : n ≤ ks) : Run p e below (Fnl s n0 kc ks Q) T (mkF m pc ls []) := by
  obtain ⟨⟨hx, hby, hml, hZ, hown, hnm, hret, hlk⟩, hs0, eT, locs, S, N⟩ := X
  obtain ⟨fs, hr, hrun, hended, hW, hsame⟩ := S.leave (v := none) (fun _ => rfl)
  refine ⟨_, _, ?_, hrun, hended, _, _, rfl, ⟨?_, ?_, N⟩, ⟨_, rfl⟩, hW, hsame.mono hk hn⟩
  · exact S.returnOut hx hret (hb hby hd) hr
  · show Q _ T.heap
    rw [eT]; exact hQ
  · show n0 ≤ T.heap.size
    rw [eT]; exact hs0
/-- the array at a has N components of kind ty; the j-th holds the int f j -/
def Arf (Z : State) (h : Heap) (a : Addr) (ty : FieldType) (N : Nat) (f : Nat → Int32) : Prop := ∃ cl : Cell, Arr Z h a cl ty ∧ cl.slots.size = N ∧ ∀ j, j < N → cl.slots[j]? = some (.int (f j))
def upd (f : Nat → Int32) (i : Nat) (v : Int32) : Nat → Int32 := fun j => if j = i then v else f j
theorem upd_same (f : Nat → Int32) (i : Nat) (v : Int32) : upd f i v i = v := if_pos rfl
theorem upd_ne (f : Nat → Int32) {i j : Nat} (v : Int32) (q : j ≠ i) : upd f i v j = f j := if_neg q
theorem Arf.lt {a : Addr} {ty : FieldType} {N : Nat} {f : Nat → Int32} (A : Arf Z h a ty N f) : a < h.size := by obtain ⟨_, A, -⟩ := A; exact A.lt
theorem Arf.ext {a : Addr} {ty : FieldType} {N : Nat} {f : Nat → Int32} {h' : Heap} (A : Arf Z h a ty N f) (E : Ext h h') : Arf Z h' a ty N f := by obtain ⟨cl, A, r⟩ := A; exact ⟨cl, A.ext E, r⟩
theorem Arf.other {a b : Addr} {ty : FieldType} {N sl : Nat} {f : Nat → Int32} {h' : Heap} {v : Value} (A : Arf Z h b ty N f) (W : Wr h h' a sl v) (q : b ≠ a) : Arf Z h' b ty N f := by obtain ⟨cl, A, r⟩ := A; exact ⟨cl, A.other W q, r⟩
theorem Arf.keep {a : Addr} {ty : FieldType} {N : Nat} {f : Nat → Int32} {h' : Heap} {ws : List Addr} (A : Arf Z h a ty N f) (K : Keep h h' ws) (q : a ∉ ws) : Arf Z h' a ty N f := by obtain ⟨cl, A, r⟩ := A; exact ⟨cl, ⟨K.2.1 a cl A.1 q, A.2⟩, r⟩
theorem Arf.cast {a : Addr} {ty : FieldType} {N : Nat} {f g : Nat → Int32} (A : Arf Z h a ty N f) (q : ∀ j, j < N → f j = g j) : Arf Z h a ty N g := by obtain ⟨cl, A, S, H⟩ := A; exact ⟨cl, A, S, fun j hj => by rw [H j hj, q j hj]⟩
theorem Arf.set {a : Addr} {ty : FieldType} {N i : Nat} {f : Nat → Int32} {h' : Heap} {v : Int32} (A : Arf Z h a ty N f) (W : Wr h h' a i (.int v)) : Arf Z h' a ty N (upd f i v) := by
  obtain ⟨cl, A, S, H⟩ := A
  refine ⟨_, A.same W, by rw [sz_set]; exact S, fun j hj => ?_⟩
  by_cases q : j = i
  · subst q; rw [upd_same]; simp [Cell.setSlot, S, hj]
  · rw [upd_ne f v q]; simp only [Cell.setSlot]; rw [Array.getElem?_setIfInBounds_ne (Ne.symm q)]; exact H j hj
theorem ix_clamp {j : Int32} {i : Nat} (hj : j.toInt = i) : j.toNatClampNeg = i := by simp [Int32.toNatClampNeg, hj]
theorem ix_in {j : Int32} {i N : Nat} (hj : j.toInt = i) (hi : i < N) {cl : Cell} (S : cl.slots.size = N) : ¬ (j < 0 ∨ cl.slots.size ≤ j.toNatClampNeg) := by
  rw [ix_clamp hj, S, Int32.lt_iff_toInt_lt, hj]
  have e0 : (0 : Int32).toInt = 0 := rfl
  omega
theorem r_baload (X : Here p l e R s m args below meth c Z own nm bs ml rt n0 T h k n) {a : Addr} {N i : Nat} {f : Nat → Int32} {j v : Int32} (hd : decode bs pc = .ok (.baload, 1)) (A : Arf Z h a .byte N f) (hj : j.toInt = i) (hi : i < N) (hv : f i = v) (hp : pc + 1 = pc') (r : Run p e below F T (mkF m pc' ls (.int v :: st))) : Run p e below F T (mkF m pc ls (.int j :: .ref a :: st)) := by
  obtain ⟨⟨hx, hby, hml, hZ, hown, hnm, hret, hlk⟩, hs0, eT, locs, S, N⟩ := X
  subst hp hv
  obtain ⟨cl, A, SZ, H⟩ := A
  exact Run.of (fun t q => S.baloadBytes hx (j := j) (by rw [eT]; exact A.1) (State.isArrayOf_alike hZ.alike A.2.1) A.2.2 (ix_in hj hi SZ) (by rw [ix_clamp hj]; exact H i hi) (g := mkF m pc ls (.int j :: .ref a :: st)) rfl rfl (hb hby hd) t q) r
theorem r_caload (X : Here p l e R s m args below meth c Z own nm bs ml rt n0 T h k n) {a : Addr} {N i : Nat} {f : Nat → Int32} {j v : Int32} (hd : decode bs pc = .ok (.caload, 1)) (A : Arf Z h a .char N f) (hj : j.toInt = i) (hi : i < N) (hv : f i = v) (hp : pc + 1 = pc') (r : Run p e below F T (mkF m pc' ls (.int v :: st))) : Run p e below F T (mkF m pc ls (.int j :: .ref a :: st)) := by
  obtain ⟨⟨hx, hby, hml, hZ, hown, hnm, hret, hlk⟩, hs0, eT, locs, S, N⟩ := X
  subst hp hv
  obtain ⟨cl, A, SZ, H⟩ := A
  exact Run.of (fun t q => S.caload hx (j := j) (by rw [eT]; exact A.1) (State.isArrayOf_alike hZ.alike A.2.1) A.2.2 (ix_in hj hi SZ) (by rw [ix_clamp hj]; exact H i hi) (g := mkF m pc ls (.int j :: .ref a :: st)) rfl rfl (hb hby hd) t q) r
theorem r_iaload (X : Here p l e R s m args below meth c Z own nm bs ml rt n0 T h k n) {a : Addr} {N i : Nat} {f : Nat → Int32} {j v : Int32} (hd : decode bs pc = .ok (.iaload, 1)) (A : Arf Z h a .int N f) (hj : j.toInt = i) (hi : i < N) (hv : f i = v) (hp : pc + 1 = pc') (r : Run p e below F T (mkF m pc' ls (.int v :: st))) : Run p e below F T (mkF m pc ls (.int j :: .ref a :: st)) := by
  obtain ⟨⟨hx, hby, hml, hZ, hown, hnm, hret, hlk⟩, hs0, eT, locs, S, N⟩ := X
  subst hp hv
  obtain ⟨cl, A, SZ, H⟩ := A
  exact Run.of (fun t q => S.iaload hx (j := j) (by rw [eT]; exact A.1) (State.isArrayOf_alike hZ.alike A.2.1) A.2.2 (ix_in hj hi SZ) (by rw [ix_clamp hj]; exact H i hi) (g := mkF m pc ls (.int j :: .ref a :: st)) rfl rfl (hb hby hd) t q) r
theorem r_arraylength (X : Here p l e R s m args below meth c Z own nm bs ml rt n0 T h k n) {a : Addr} {ty : FieldType} {N : Nat} {f : Nat → Int32} {v : Int32} (hd : decode bs pc = .ok (.arraylength, 1)) (A : Arf Z h a ty N f) (hv : N.toInt32 = v) (hp : pc + 1 = pc') (r : Run p e below F T (mkF m pc' ls (.int v :: st))) : Run p e below F T (mkF m pc ls (.ref a :: st)) := by
  obtain ⟨⟨hx, hby, hml, hZ, hown, hnm, hret, hlk⟩, hs0, eT, locs, S, N⟩ := X
  subst hp hv
  obtain ⟨cl, A, SZ, H⟩ := A
  subst SZ
  exact Run.of (fun t q => S.arraylength hx (cell := cl) (by rw [eT]; exact A.1) (State.isArrayOf_alike hZ.alike A.2.1) (g := mkF m pc ls (.ref a :: st)) rfl rfl (hb hby hd) t q) r
theorem r_bastore (X : Here p l e R s m args below meth c Z own nm bs ml rt n0 T h k n) {a : Addr} {N i : Nat} {f : Nat → Int32} {j x v : Int32} (hd : decode bs pc = .ok (.bastore, 1)) (A : Arf Z h a .byte N f) (hj : j.toInt = i) (hi : i < N) (ge : n0 ≤ a) (hv : nar .byte x = v) (hp : pc + 1 = pc') (r : ∀ T' h', Here p l e R s m args below meth c Z own nm bs ml rt n0 T' h' k n → Wr h h' a i (.int v) → Arf Z h' a .byte N (upd f i v) → Run p e below F T' (mkF m pc' ls st)) : Run p e below F T (mkF m pc ls (.int x :: .int j :: .ref a :: st)) := by
  obtain ⟨⟨hx, hby, hml, hZ, hown, hnm, hret, hlk⟩, hs0, eT, locs, S, N_⟩ := X
  subst hp hv
  obtain ⟨cl, A, SZ, H⟩ := A
  obtain ⟨T', h', X', e', W, st'⟩ := stB S hx hZ eT A (j := j) (x := x) (ix_in hj hi SZ) (g := mkF m pc ls (.int x :: .int j :: .ref a :: st)) rfl rfl (hb hby hd)
  rw [ix_clamp hj] at W
  refine Run.of (fun t q => st' t q) (r T' h' ⟨⟨hx, hby, hml, hZ, hown, hnm, hret, hlk⟩, ?_, e', _, X', Fr.snoc X' N_ ge⟩ W (Arf.set ⟨cl, A, SZ, H⟩ W))
  rw [W.size]; exact hs0
theorem r_castore (X : Here p l e R s m args below meth c Z own nm bs ml rt n0 T h k n) {a : Addr} {N i : Nat} {f : Nat → Int32} {j x v : Int32} (hd : decode bs pc = .ok (.castore, 1)) (A : Arf Z h a .char N f) (hj : j.toInt = i) (hi : i < N) (ge : n0 ≤ a) (hv : nar .char x = v) (hp : pc + 1 = pc') (r : ∀ T' h', Here p l e R s m args below meth c Z own nm bs ml rt n0 T' h' k n → Wr h h' a i (.int v) → Arf Z h' a .char N (upd f i v) → Run p e below F T' (mkF m pc' ls st)) : Run p e below F T (mkF m pc ls (.int x :: .int j :: .ref a :: st)) := by
  obtain ⟨⟨hx, hby, hml, hZ, hown, hnm, hret, hlk⟩, hs0, eT, locs, S, N_⟩ := X
  subst hp hv
  obtain ⟨cl, A, SZ, H⟩ := A
  obtain ⟨T', h', X', e', W, st'⟩ := stC S hx hZ eT A (j := j) (x := x) (ix_in hj hi SZ) (g := mkF m pc ls (.int x :: .int j :: .ref a :: st)) rfl rfl (hb hby hd)
  rw [ix_clamp hj] at W
  refine Run.of (fun t q => st' t q) (r T' h' ⟨⟨hx, hby, hml, hZ, hown, hnm, hret, hlk⟩, ?_, e', _, X', Fr.snoc X' N_ ge⟩ W (Arf.set ⟨cl, A, SZ, H⟩ W))
  rw [W.size]; exact hs0
theorem r_iastore (X : Here p l e R s m args below meth c Z own nm bs ml rt n0 T h k n) {a : Addr} {N i : Nat} {f : Nat → Int32} {j x v : Int32} (hd : decode bs pc = .ok (.iastore, 1)) (A : Arf Z h a .int N f) (hj : j.toInt = i) (hi : i < N) (ge : n0 ≤ a) (hv : x = v) (hp : pc + 1 = pc') (r : ∀ T' h', Here p l e R s m args below meth c Z own nm bs ml rt n0 T' h' k n → Wr h h' a i (.int v) → Arf Z h' a .int N (upd f i v) → Run p e below F T' (mkF m pc' ls st)) : Run p e below F T (mkF m pc ls (.int x :: .int j :: .ref a :: st)) := by
  obtain ⟨⟨hx, hby, hml, hZ, hown, hnm, hret, hlk⟩, hs0, eT, locs, S, N_⟩ := X
  subst hp hv
  obtain ⟨cl, A, SZ, H⟩ := A
  obtain ⟨T', h', X', e', W, st'⟩ := stI S hx hZ eT A (j := j) (x := x) (ix_in hj hi SZ) (g := mkF m pc ls (.int x :: .int j :: .ref a :: st)) rfl rfl (hb hby hd)
  rw [ix_clamp hj] at W
  refine Run.of (fun t q => st' t q) (r T' h' ⟨⟨hx, hby, hml, hZ, hown, hnm, hret, hlk⟩, ?_, e', _, X', Fr.snoc X' N_ ge⟩ W (Arf.set ⟨cl, A, SZ, H⟩ W))
  rw [W.size]; exact hs0
theorem r_newarray (X : Here p l e R s m args below meth c Z own nm bs ml rt n0 T h k n) {aty : ArrayType} {z : Int32} {N : Nat} (hd : decode bs pc = .ok (.newarray aty, 2)) (w : (Jvm.Cond.arrayClass (newarray.typeOf aty)).before a0 Z = true) (hz : z.toInt = N) (hdf : defaultValue (newarray.typeOf aty) = .int 0) (hb8 : N * 8 ≤ 536870912) (hc : k + 1 ≤ R.cells) (hl : n + N ≤ R.slots) (hp : pc + 2 = pc') (r : ∀ T' h' b, Here p l e R s m args below meth c Z own nm bs ml rt n0 T' h' (k + 1) (n + N) → b = h.size → n0 ≤ b → Ext h h' → Arf Z h' b (newarray.typeOf aty) N (fun _ => 0) → Run p e below F T' (mkF m pc' ls (.ref b :: st))) : Run p e below F T (mkF m pc ls (.int z :: st)) := by
  obtain ⟨⟨hx, hby, hml, hZ, hown, hnm, hret, hlk⟩, hs0, eT, locs, S, N_⟩ := X
  subst hp
  have hneg : ¬ z < 0 := by
    rw [Int32.lt_iff_toInt_lt, hz]
    have e0 : (0 : Int32).toInt = 0 := rfl
    omega
  obtain ⟨T', h', cA, X', e', E, A, st'⟩ := newP S hx hZ w eT (g := mkF m pc ls (.int z :: st)) rfl (hb hby hd) rfl hneg (cap := N) (Nat.le_of_eq (ix_clamp hz)) hb8 hc hl
  refine Run.of (fun t q => st' t q) (r T' h' h.size ⟨⟨hx, hby, hml, hZ, hown, hnm, hret, hlk⟩, Nat.le_trans hs0 E.1, e', _, X', N_⟩ rfl hs0 E ⟨_, A, (sz_new _ _ _).trans (ix_clamp hz), fun j hj => ?_⟩)
  simp [newA, ix_clamp hz, hj, hdf]
theorem r_new (X : Here p l e R s m args below meth c Z own nm bs ml rt n0 T h k n) {C : String} {i sz : Nat} (hd : decode bs pc = .ok (.new i, 3)) (w : (Jvm.Cond.classLink own i C).before a0 Z = true) (wi : (Jvm.Cond.instantiable C sz).before a0 Z = true) (wz : (Jvm.Cond.initialized C).before a0 Z = true) (hc : k + 1 ≤ R.cells) (hl : n + sz ≤ R.slots) (hp : pc + 3 = pc') (r : ∀ T' h' b, Here p l e R s m args below meth c Z own nm bs ml rt n0 T' h' (k + 1) (n + sz) → b = h.size → n0 ≤ b → Ext h h' → Exa Z h' b C → (∀ {O f d : String} {ty : FieldType}, Laid Z a0 C O f d → parseFieldDescriptor d = some ty → Fld Z h' b O f d (defaultValue ty)) → Run p e below F T' (mkF m pc' ls (.ref b :: st))) : Run p e below F T (mkF m pc ls st) := by
  obtain ⟨⟨hx, hby, hml, hZ, hown, hnm, hret, hlk⟩, hs0, eT, locs, S, N⟩ := X
  subst hp
  obtain ⟨T', h', X', e', E, A, D, -, st'⟩ := newO S hx hZ hown w wi wz eT (g := mkF m pc ls st) rfl (hb hby hd) hc hl
  exact Run.of (fun t q => st' t q) (r T' h' h.size ⟨⟨hx, hby, hml, hZ, hown, hnm, hret, hlk⟩, Nat.le_trans hs0 E.1, e', _, X', N⟩ rfl hs0 E A D)
theorem r_getfield (X : Here p l e R s m args below meth c Z own nm bs ml rt n0 T h k n) {R0 f d : String} {i : Nat} {a : Addr} {v : Value} (hd : decode bs pc = .ok (.getfield i, 3)) (w : (Jvm.Cond.fieldLink own i R0 f d).before a0 Z = true) (Ff : Fld Z h a R0 f d v) (hp : pc + 3 = pc') (r : ∀ T', Here p l e R s m args below meth c Z own nm bs ml rt n0 T' h k n → Run p e below F T' (mkF m pc' ls (v :: st))) : Run p e below F T (mkF m pc ls (.ref a :: st)) := by
  obtain ⟨⟨hx, hby, hml, hZ, hown, hnm, hret, hlk⟩, hs0, eT, locs, S, N⟩ := X
  subst hp
  obtain ⟨T', X', e', st'⟩ := getF S hx hZ hown (host := "") (Or.inl w) Via.refl eT Ff (g := mkF m pc ls (.ref a :: st)) rfl rfl (hb hby hd)
  exact Run.of (fun t q => st' t q) (r T' ⟨⟨hx, hby, hml, hZ, hown, hnm, hret, hlk⟩, hs0, e', _, X', N⟩)
theorem r_putfield (X : Here p l e R s m args below meth c Z own nm bs ml rt n0 T h k n) {R0 f d C : String} {i kk : Nat} {a : Addr} {v old : Value} {ty : FieldType} (hd : decode bs pc = .ok (.putfield i, 3)) (w : (Jvm.Cond.fieldLink own i R0 f d).before a0 Z = true) (Ff : Fld Z h a R0 f d old) (E : Exa Z h a C) (L : (Jvm.Cond.lays C R0 f d).before a0 Z = true ∨ ((Jvm.Cond.laysFinal C R0 f d).before a0 Z = true ∧ own = R0 ∧ nm = "<init>")) (wi : (Jvm.Cond.instantiable C kk).before a0 Z = true) (hty : parseFieldDescriptor d = some ty) (hn : narrow ty v = v) (hf : fits ty v = true) (ge : n0 ≤ a) (hp : pc + 3 = pc') (r : ∀ T' h', Here p l e R s m args below meth c Z own nm bs ml rt n0 T' h' k n → Wr h h' a (Jvm.RoadKit.slotOf Z R0 f d) v → Run p e below F T' (mkF m pc' ls st)) : Run p e below F T (mkF m pc ls (v :: .ref a :: st)) := by
  obtain ⟨⟨hx, hby, hml, hZ, hown, hnm, hret, hlk⟩, hs0, eT, locs, S, N⟩ := X
  subst hp
  obtain ⟨T', h', X', e', W, st'⟩ := putF S hx hZ hown (host := "") (Or.inl w) Via.refl eT Ff E (L.imp id fun q => ⟨q.1, q.2.1, hnm.trans q.2.2⟩) wi hty hn hf (g := mkF m pc ls (v :: .ref a :: st)) rfl rfl (hb hby hd)
  refine Run.of (fun t q => st' t q) (r T' h' ⟨⟨hx, hby, hml, hZ, hown, hnm, hret, hlk⟩, ?_, e', _, X', Fr.snoc X' N ge⟩ W)
  rw [W.size]; exact hs0
theorem r_initObject (X : Here p l e R s m args below meth c Z own nm bs ml rt n0 T h k n) {i : Nat} {a : Addr} (hd : decode bs pc = .ok (.invokespecial i, 3)) (w1 : (Jvm.Cond.methodLink own i Lib.objectInit).before a0 Z = true) (w2 : (Jvm.Cond.instanceMethod Lib.objectInit).before a0 Z = true) (w3 : (Jvm.Cond.code Lib.objectInit ⟨#[0xb1]⟩ 1 none).before a0 Z = true) (hsz : ls.size = ml) (hf : 1 ≤ R.frames) {W : Nat} (hW : (st.map fun v => v.category).sum = W) (hl : W + 12 ≤ R.locals) (hp : pc + 3 = pc') (r : ∀ T', Here p l e R s m args below meth c Z own nm bs ml rt n0 T' h k n → Run p e below F T' (mkF m pc' ls st)) : Run p e below F T (mkF m pc ls (.ref a :: st)) := by
  obtain ⟨⟨hx, hby, hml, hZ, hown, hnm, hret, hlk⟩, hs0, eT, locs, S, N⟩ := X
  subst hp
  obtain ⟨T', X', e', st'⟩ := initO S hx hZ hown w1 w2 w3 eT (g := mkF m pc ls (.ref a :: st)) rfl (by rw [hml]; exact hsz) rfl (hb hby hd) hf (W := W) (by show 2 * 0 + _ ≤ _; rw [hW]; omega) hl
  exact Run.of (fun t q => st' t q) (r T' ⟨⟨hx, hby, hml, hZ, hown, hnm, hret, hlk⟩, hs0, e', _, X', N⟩)
theorem r_callS (X : Here p l e R s m args below meth c Z own nm bs ml rt n0 T h k n) {y : MethodName} {i : Nat} {bs' : ByteArray} {ml' : Nat} {rt' : Option FieldType} {rm : Room} {Q' : Option Value → Heap → Prop} {ps : List FieldType} {rr : Option FieldType} {argsL rest : List Value} {W : Nat} (hd : decode bs pc = .ok (.invokestatic i, 3)) (C : Con l Z y bs' ml' rt' rm argsL.toArray h n0 rm.cells rm.slots Q') (w1 : (Jvm.Cond.methodLink own i y).before a0 Z = true) (w2 : (Jvm.Cond.static y).before a0 Z = true) (w3 : (Jvm.Cond.initialized y.cls).before a0 Z = true) (w4 : (Jvm.Cond.code y bs' ml' rt').before a0 Z = true) (hy : y.cls ≠ "java/lang/invoke/MethodHandle" ∧ y.cls ≠ "java/lang/invoke/VarHandle") (hst : st = argsL.reverse ++ rest) (hsz : ls.size = ml) (hpd : parseMethodDescriptor y.desc = some ⟨ps, rr⟩) (hlen : argsL.length = ps.length) (hW : (rest.map fun v => v.category).sum = W) (hf : rm.frames + 1 ≤ R.frames) (hl : W + (ml' + 11) + rm.locals ≤ R.locals) (hc : k + rm.cells ≤ R.cells) (hs : n + rm.slots ≤ R.slots) (hp : pc + 3 = pc') (r : ∀ v T' h', Here p l e R s m args below meth c Z own nm bs ml rt n0 T' h' (k + rm.cells) (n + rm.slots) → Q' v h' → Run p e below F T' (mkF m pc' ls (v.toList ++ rest))) : Run p e below F T (mkF m pc ls st) := by
  obtain ⟨⟨hx, hby, hml, hZ, hown, hnm, hret, hlk⟩, hs0, eT, locs, S, N⟩ := X
  subst hp hst
  obtain ⟨v, _, B, -, X', ⟨L, hQ, l1, l2, l3⟩, st'⟩ := Jvm.LawKit.callS S hx (y := y) hown (mvT hZ w1) (mvT hZ w2) (mvT hZ w3) (mvT hZ w4) hy (backOf (W := W) (Q := fun v hh L => Q' v hh ∧ n0 ≤ hh.size ∧ Fr n0 L) (C []) hZ w4 w3 hf hl) (g := mkF m pc ls (argsL.reverse ++ rest)) rfl (by rw [hml]; exact hsz) (argsL := argsL) (rest := rest) (lenOf hpd hlen) rfl (by show 2 * 0 + _ ≤ _; rw [hW]; omega) (hb hby hd) (fun _ _ => ⟨rfl, eT, hc, hs⟩)
  obtain ⟨hQ, hs1, hF⟩ := hQ
  have X'' : Here p l e R s m args below meth c Z own nm bs ml rt n0 B.U B.U.heap (k + rm.cells) (n + rm.slots) := ⟨⟨hx, hby, hml, hZ, hown, hnm, hret, hlk⟩, hs1, rfl, B.locs, by rw [l2, l3] at X'; exact X', by rw [l1]; exact Fr.app N hF⟩
  exact Run.of (fun t q => st' t q) (r v B.U B.U.heap X'' hQ)
theorem r_init (X : Here p l e R s m args below meth c Z own nm bs ml rt n0 T h k n) {y : MethodName} {i : Nat} {bs' : ByteArray} {ml' : Nat} {rm : Room} {Q' : Option Value → Heap → Prop} {ps : List FieldType} {rr : Option FieldType} {argsL rest : List Value} {W : Nat} {a : Addr} (hd : decode bs pc = .ok (.invokespecial i, 3)) (C : Con l Z y bs' ml' none rm (.ref a :: argsL).toArray h n0 rm.cells rm.slots Q') (hy1 : y.name = "<init>") (w1 : (Jvm.Cond.methodLink own i y).before a0 Z = true) (w2 : (Jvm.Cond.instanceMethod y).before a0 Z = true) (w3 : (Jvm.Cond.initialized y.cls).before a0 Z = true) (w4 : (Jvm.Cond.code y bs' ml' none).before a0 Z = true) (hy : y.cls ≠ "java/lang/invoke/MethodHandle" ∧ y.cls ≠ "java/lang/invoke/VarHandle") (hst : st = argsL.reverse ++ .ref a :: rest) (hsz : ls.size = ml) (hpd : parseMethodDescriptor y.desc = some ⟨ps, rr⟩) (hlen : argsL.length = ps.length) (hW : (rest.map fun v => v.category).sum = W) (hf : rm.frames + 1 ≤ R.frames) (hl : W + (ml' + 11) + rm.locals ≤ R.locals) (hc : k + rm.cells ≤ R.cells) (hs : n + rm.slots ≤ R.slots) (hp : pc + 3 = pc') (r : ∀ v T' h', Here p l e R s m args below meth c Z own nm bs ml rt n0 T' h' (k + rm.cells) (n + rm.slots) → Q' v h' → Run p e below F T' (mkF m pc' ls (v.toList ++ rest))) : Run p e below F T (mkF m pc ls st) := by
  obtain ⟨⟨hx, hby, hml, hZ, hown, hnm, hret, hlk⟩, hs0, eT, locs, S, N⟩ := X
  subst hp hst
  obtain ⟨v, _, B, -, X', ⟨L, hQ, l1, l2, l3⟩, st'⟩ := S.specialBack hx (y := y) hy1 hown (mvT hZ w1) (mvT hZ w2) (mvT hZ w4) hy (backOf (W := W) (Q := fun v hh L => Q' v hh ∧ n0 ≤ hh.size ∧ Fr n0 L) (C []) hZ w4 w3 hf hl) (g := mkF m pc ls (argsL.reverse ++ .ref a :: rest)) rfl (by rw [hml]; exact hsz) (Steps.refl _) (a := a) (argsL := argsL) (rest := rest) (lenOf hpd hlen) rfl (by show 2 * 0 + _ ≤ _; rw [hW]; omega) (hb hby hd) (fun _ _ => ⟨rfl, eT, hc, hs⟩)
  obtain ⟨hQ, hs1, hF⟩ := hQ
  have X'' : Here p l e R s m args below meth c Z own nm bs ml rt n0 B.U B.U.heap (k + rm.cells) (n + rm.slots) := ⟨⟨hx, hby, hml, hZ, hown, hnm, hret, hlk⟩, hs1, rfl, B.locs, by rw [l2, l3] at X'; exact X', by rw [l1]; exact Fr.app N hF⟩
  exact Run.of (fun t q => st'.trans q) (r v B.U B.U.heap X'' hQ)
theorem r_callV (X : Here p l e R s m args below meth c Z own nm bs ml rt n0 T h k n) {y : MethodName} {i : Nat} {bs' : ByteArray} {ml' : Nat} {rt' : Option FieldType} {rm : Room} {Q' : Option Value → Heap → Prop} {ps : List FieldType} {rr : Option FieldType} {argsL rest : List Value} {W : Nat} {C0 : String} {a : Addr} (hd : decode bs pc = .ok (.invokevirtual i, 3)) (C : Con l Z y bs' ml' rt' rm (.ref a :: argsL).toArray h n0 rm.cells rm.slots Q') (E : Exa Z h a C0) (w1 : (Jvm.Cond.methodLink own i y).before a0 Z = true) (w2 : (Jvm.Cond.declares y).before a0 Z = true) (w5 : (Jvm.Cond.selects C0 y y).before a0 Z = true) (w6 : (Jvm.Cond.instanceMethod y).before a0 Z = true) (w3 : (Jvm.Cond.initialized y.cls).before a0 Z = true) (w4 : (Jvm.Cond.code y bs' ml' rt').before a0 Z = true) (hy : y.cls ≠ "java/lang/invoke/MethodHandle" ∧ y.cls ≠ "java/lang/invoke/VarHandle") (hst : st = argsL.reverse ++ .ref a :: rest) (hsz : ls.size = ml) (hpd : parseMethodDescriptor y.desc = some ⟨ps, rr⟩) (hlen : argsL.length = ps.length) (hW : (rest.map fun v => v.category).sum = W) (hf : rm.frames + 1 ≤ R.frames) (hl : W + (ml' + 11) + rm.locals ≤ R.locals) (hc : k + rm.cells ≤ R.cells) (hs : n + rm.slots ≤ R.slots) (hp : pc + 3 = pc') (r : ∀ v T' h', Here p l e R s m args below meth c Z own nm bs ml rt n0 T' h' (k + rm.cells) (n + rm.slots) → Q' v h' → Run p e below F T' (mkF m pc' ls (v.toList ++ rest))) : Run p e below F T (mkF m pc ls st) := by
  obtain ⟨⟨hx, hby, hml, hZ, hown, hnm, hret, hlk⟩, hs0, eT, locs, S, N⟩ := X
  subst hp hst
  obtain ⟨cq, kq, qa, qb, qc⟩ := isOf hZ eT E
  obtain ⟨v, _, B, -, X', ⟨L, hQ, l1, l2, l3⟩, st'⟩ := S.virtualBack hx (y := y) (z := y) hown (mvT hZ w1) (mvT hZ w2) (notFace_of_selects (args := #[]) (mvT hZ w5)) (mvT hZ w5) (mvT hZ w6) hy (backOf (W := W) (Q := fun v hh L => Q' v hh ∧ n0 ≤ hh.size ∧ Fr n0 L) (C []) hZ w4 w3 hf hl) qa qc (g := mkF m pc ls (argsL.reverse ++ .ref a :: rest)) rfl (by rw [hml]; exact hsz) (Steps.refl _) (argsL := argsL) (rest := rest) (lenOf hpd hlen) rfl (by show 2 * 0 + _ ≤ _; rw [hW]; omega) (hb hby hd) (fun _ _ => ⟨rfl, eT, hc, hs⟩)
  obtain ⟨hQ, hs1, hF⟩ := hQ
  have X'' : Here p l e R s m args below meth c Z own nm bs ml rt n0 B.U B.U.heap (k + rm.cells) (n + rm.slots) := ⟨⟨hx, hby, hml, hZ, hown, hnm, hret, hlk⟩, hs1, rfl, B.locs, by rw [l2, l3] at X'; exact X', by rw [l1]; exact Fr.app N hF⟩
  exact Run.of (fun t q => st'.trans q) (r v B.U B.U.heap X'' hQ)
end Own
/-- an int by its bits' number -/
theorem n_bits (x : Int32) : x.toInt = ((x.toBitVec.toNat : Int) + 2147483648) % 4294967296 - 2147483648 := by
  have e : x.toInt = x.toBitVec.toInt := rfl
  have hb := x.toBitVec.isLt
  rw [e, BitVec.toInt_eq_toNat_cond]
  split <;> omega
theorem n_i2b (x : Int32) : (x.toInt8.toInt32).toInt = (x.toInt + 128) % 256 - 128 := by
  rw [Int8.toInt_toInt32, Int32.toInt_toInt8, Int.bmod_def]; omega
theorem n_i2c (x : Int32) : (x.toUInt32.toUInt16.toUInt32.toInt32).toInt = x.toInt % 65536 := by
  have h : (x.toUInt32.toUInt16.toUInt32.toInt32).toBitVec.toNat = x.toBitVec.toNat % 65536 := by
    show ((x.toBitVec.setWidth 16).setWidth 32).toNat = _
    rw [BitVec.toNat_setWidth, BitVec.toNat_setWidth]; omega
  have h1 := n_bits (x.toUInt32.toUInt16.toUInt32.toInt32)
  have h2 := n_bits x
  have h3 := x.toBitVec.isLt
  omega
theorem n_narC (x : Int32) : nar .char x.toUInt32.toUInt16.toUInt32.toInt32 = x.toUInt32.toUInt16.toUInt32.toInt32 := by
  apply Int32.toInt_inj.mp
  show (Int32.toUInt32 _).toUInt16.toUInt32.toInt32.toInt = _
  rw [n_i2c, n_i2c]; omega
theorem n_narB (x : Int32) : nar .byte x.toInt8.toInt32 = x.toInt8.toInt32 := by
  apply Int32.toInt_inj.mp
  show (Int32.toInt8 _).toInt32.toInt = _
  rw [n_i2b, n_i2b]; omega
theorem n_add {x y : Int32} {a b : Int} (hx : x.toInt = a) (hy : y.toInt = b) (h1 : -2147483648 ≤ a + b) (h2 : a + b ≤ 2147483647) : (x + y).toInt = a + b := by
  subst hx hy; exact Jvm.Kit.i32_add (by omega) (by omega)
theorem n_sub {x y : Int32} {a b : Int} (hx : x.toInt = a) (hy : y.toInt = b) (h1 : -2147483648 ≤ a - b) (h2 : a - b ≤ 2147483647) : (x - y).toInt = a - b := by
  subst hx hy; exact Jvm.Kit.i32_sub (by omega) (by omega)
theorem n_nat {x : Int32} {n : Nat} (h : x.toInt = n) : x = Int32.ofNat n := by
  have a := x.toInt_lt
  exact Int32.toInt_inj.mp (by rw [h, Int32.toInt_ofNat_of_lt (by omega)])
theorem n_max (x : Int32) : 0 ≤ (x &&& (2147483647 : Int32)).toInt := by
  have : (x &&& (2147483647 : Int32)).toInt = x.toInt % 2 ^ 31 := Jvm.Kit.i32_mask x 2147483647 (k := 31) (by decide) (by decide)
  omega
theorem n_bitsL (x : Int64) : x.toInt = ((x.toBitVec.toNat : Int) + 9223372036854775808) % 18446744073709551616 - 9223372036854775808 := by
  have e : x.toInt = x.toBitVec.toInt := rfl
  have hb := x.toBitVec.isLt
  rw [e, BitVec.toInt_eq_toNat_cond]
  split <;> omega
theorem n_ushr (x y : Int32) (s : Nat) (hs : ((y &&& 31).toUInt32).toNat = s) (h1 : s < 32) : ((XT.ushr x y).toBitVec.toNat : Nat) = x.toBitVec.toNat / 2 ^ s := by
  show ((x.toUInt32 >>> (y &&& 31).toUInt32).toInt32).toBitVec.toNat = _
  simp only [UInt32.toBitVec_toInt32, UInt32.toBitVec_shiftRight, Int32.toBitVec_toUInt32]
  simp [BitVec.toNat_ushiftRight, Nat.shiftRight_eq_div_pow]
  have h2 : y.toBitVec.toNat &&& 31 = s := hs
  rw [h2, Nat.mod_eq_of_lt h1]
theorem pn_java_lang_Record : plainName "java/lang/Record" = true := by first | (simp [plainName, overriddenIn]; done) | decide +kernel
theorem d_init_Record_0 : decode jdk_30_method_1_code 0 = .ok (.aload_n 0, 1) := by decide +kernel
theorem d_init_Record_1 : decode jdk_30_method_1_code 1 = .ok (.invokespecial 1, 3) := by decide +kernel
theorem d_init_Record_4 : decode jdk_30_method_1_code 4 = .ok (.return_, 1) := by decide +kernel
theorem pn_com_example_volkskern_volkskern_register_RegisterDate : plainName "com/example/volkskern/volkskern/register/RegisterDate" = true := by first | (simp [plainName, overriddenIn]; done) | decide +kernel
theorem d_init_RegisterDate_0 : decode prog_93_method_1_code 0 = .ok (.aload_n 0, 1) := by decide +kernel
theorem pd_init_Record : parseMethodDescriptor "()V" = some ⟨[], none⟩ := by decide +kernel
theorem d_init_RegisterDate_1 : decode prog_93_method_1_code 1 = .ok (.invokespecial 1, 3) := by decide +kernel
theorem d_init_RegisterDate_4 : decode prog_93_method_1_code 4 = .ok (.aload_n 0, 1) := by decide +kernel
theorem d_init_RegisterDate_5 : decode prog_93_method_1_code 5 = .ok (.iload_n 1, 1) := by decide +kernel
theorem d_init_RegisterDate_6 : decode prog_93_method_1_code 6 = .ok (.putfield 7, 3) := by decide +kernel
theorem d_init_RegisterDate_9 : decode prog_93_method_1_code 9 = .ok (.aload_n 0, 1) := by decide +kernel
theorem d_init_RegisterDate_10 : decode prog_93_method_1_code 10 = .ok (.iload_n 2, 1) := by decide +kernel
theorem d_init_RegisterDate_11 : decode prog_93_method_1_code 11 = .ok (.putfield 13, 3) := by decide +kernel
theorem d_init_RegisterDate_14 : decode prog_93_method_1_code 14 = .ok (.aload_n 0, 1) := by decide +kernel
theorem d_init_RegisterDate_15 : decode prog_93_method_1_code 15 = .ok (.iload_n 3, 1) := by decide +kernel
theorem d_init_RegisterDate_16 : decode prog_93_method_1_code 16 = .ok (.putfield 16, 3) := by decide +kernel
theorem d_init_RegisterDate_19 : decode prog_93_method_1_code 19 = .ok (.return_, 1) := by decide +kernel
theorem d_isBeforeInPartsBothGive_0 : decode prog_93_method_7_code 0 = .ok (.iconst 3, 1) := by decide +kernel
theorem d_isBeforeInPartsBothGive_1 : decode prog_93_method_7_code 1 = .ok (.newarray .int, 2) := by decide +kernel
theorem d_isBeforeInPartsBothGive_3 : decode prog_93_method_7_code 3 = .ok (.dup, 1) := by decide +kernel
theorem d_isBeforeInPartsBothGive_4 : decode prog_93_method_7_code 4 = .ok (.iconst 0, 1) := by decide +kernel
theorem d_isBeforeInPartsBothGive_5 : decode prog_93_method_7_code 5 = .ok (.aload_n 0, 1) := by decide +kernel
theorem d_isBeforeInPartsBothGive_6 : decode prog_93_method_7_code 6 = .ok (.getfield 16, 3) := by decide +kernel
theorem d_isBeforeInPartsBothGive_9 : decode prog_93_method_7_code 9 = .ok (.iastore, 1) := by decide +kernel
theorem d_isBeforeInPartsBothGive_10 : decode prog_93_method_7_code 10 = .ok (.dup, 1) := by decide +kernel
theorem d_isBeforeInPartsBothGive_11 : decode prog_93_method_7_code 11 = .ok (.iconst 1, 1) := by decide +kernel
theorem d_isBeforeInPartsBothGive_12 : decode prog_93_method_7_code 12 = .ok (.aload_n 0, 1) := by decide +kernel
theorem d_isBeforeInPartsBothGive_13 : decode prog_93_method_7_code 13 = .ok (.getfield 13, 3) := by decide +kernel
theorem d_isBeforeInPartsBothGive_16 : decode prog_93_method_7_code 16 = .ok (.iastore, 1) := by decide +kernel
theorem d_isBeforeInPartsBothGive_17 : decode prog_93_method_7_code 17 = .ok (.dup, 1) := by decide +kernel
theorem d_isBeforeInPartsBothGive_18 : decode prog_93_method_7_code 18 = .ok (.iconst 2, 1) := by decide +kernel
theorem d_isBeforeInPartsBothGive_19 : decode prog_93_method_7_code 19 = .ok (.aload_n 0, 1) := by decide +kernel
theorem d_isBeforeInPartsBothGive_20 : decode prog_93_method_7_code 20 = .ok (.getfield 7, 3) := by decide +kernel
theorem d_isBeforeInPartsBothGive_23 : decode prog_93_method_7_code 23 = .ok (.iastore, 1) := by decide +kernel
theorem d_isBeforeInPartsBothGive_24 : decode prog_93_method_7_code 24 = .ok (.astore_n 2, 1) := by decide +kernel
theorem d_isBeforeInPartsBothGive_25 : decode prog_93_method_7_code 25 = .ok (.iconst 3, 1) := by decide +kernel
theorem d_isBeforeInPartsBothGive_26 : decode prog_93_method_7_code 26 = .ok (.newarray .int, 2) := by decide +kernel
theorem d_isBeforeInPartsBothGive_28 : decode prog_93_method_7_code 28 = .ok (.dup, 1) := by decide +kernel
theorem d_isBeforeInPartsBothGive_29 : decode prog_93_method_7_code 29 = .ok (.iconst 0, 1) := by decide +kernel
theorem d_isBeforeInPartsBothGive_30 : decode prog_93_method_7_code 30 = .ok (.aload_n 1, 1) := by decide +kernel
theorem d_isBeforeInPartsBothGive_31 : decode prog_93_method_7_code 31 = .ok (.getfield 16, 3) := by decide +kernel
theorem d_isBeforeInPartsBothGive_34 : decode prog_93_method_7_code 34 = .ok (.iastore, 1) := by decide +kernel
theorem d_isBeforeInPartsBothGive_35 : decode prog_93_method_7_code 35 = .ok (.dup, 1) := by decide +kernel
theorem d_isBeforeInPartsBothGive_36 : decode prog_93_method_7_code 36 = .ok (.iconst 1, 1) := by decide +kernel
theorem d_isBeforeInPartsBothGive_37 : decode prog_93_method_7_code 37 = .ok (.aload_n 1, 1) := by decide +kernel
theorem d_isBeforeInPartsBothGive_38 : decode prog_93_method_7_code 38 = .ok (.getfield 13, 3) := by decide +kernel
theorem d_isBeforeInPartsBothGive_41 : decode prog_93_method_7_code 41 = .ok (.iastore, 1) := by decide +kernel
theorem d_isBeforeInPartsBothGive_42 : decode prog_93_method_7_code 42 = .ok (.dup, 1) := by decide +kernel
theorem d_isBeforeInPartsBothGive_43 : decode prog_93_method_7_code 43 = .ok (.iconst 2, 1) := by decide +kernel
theorem d_isBeforeInPartsBothGive_44 : decode prog_93_method_7_code 44 = .ok (.aload_n 1, 1) := by decide +kernel
theorem d_isBeforeInPartsBothGive_45 : decode prog_93_method_7_code 45 = .ok (.getfield 7, 3) := by decide +kernel
theorem d_isBeforeInPartsBothGive_48 : decode prog_93_method_7_code 48 = .ok (.iastore, 1) := by decide +kernel
theorem d_isBeforeInPartsBothGive_49 : decode prog_93_method_7_code 49 = .ok (.astore_n 3, 1) := by decide +kernel
theorem d_isBeforeInPartsBothGive_50 : decode prog_93_method_7_code 50 = .ok (.iconst 0, 1) := by decide +kernel
theorem d_isBeforeInPartsBothGive_51 : decode prog_93_method_7_code 51 = .ok (.istore 4, 2) := by decide +kernel
theorem d_isBeforeInPartsBothGive_53 : decode prog_93_method_7_code 53 = .ok (.iload 4, 2) := by decide +kernel
theorem d_isBeforeInPartsBothGive_55 : decode prog_93_method_7_code 55 = .ok (.aload_n 2, 1) := by decide +kernel
theorem d_isBeforeInPartsBothGive_56 : decode prog_93_method_7_code 56 = .ok (.arraylength, 1) := by decide +kernel
theorem d_isBeforeInPartsBothGive_57 : decode prog_93_method_7_code 57 = .ok (.if_icmp .ge 53, 3) := by decide +kernel
theorem d_isBeforeInPartsBothGive_60 : decode prog_93_method_7_code 60 = .ok (.aload_n 2, 1) := by decide +kernel
theorem d_isBeforeInPartsBothGive_61 : decode prog_93_method_7_code 61 = .ok (.iload 4, 2) := by decide +kernel
theorem d_isBeforeInPartsBothGive_63 : decode prog_93_method_7_code 63 = .ok (.iaload, 1) := by decide +kernel
theorem d_isBeforeInPartsBothGive_64 : decode prog_93_method_7_code 64 = .ok (.ifCond .eq 10, 3) := by decide +kernel
theorem d_isBeforeInPartsBothGive_74 : decode prog_93_method_7_code 74 = .ok (.iconst 0, 1) := by decide +kernel
theorem d_isBeforeInPartsBothGive_75 : decode prog_93_method_7_code 75 = .ok (.ireturn, 1) := by decide +kernel
theorem d_isBeforeInPartsBothGive_67 : decode prog_93_method_7_code 67 = .ok (.aload_n 3, 1) := by decide +kernel
theorem d_isBeforeInPartsBothGive_68 : decode prog_93_method_7_code 68 = .ok (.iload 4, 2) := by decide +kernel
theorem d_isBeforeInPartsBothGive_70 : decode prog_93_method_7_code 70 = .ok (.iaload, 1) := by decide +kernel
theorem d_isBeforeInPartsBothGive_71 : decode prog_93_method_7_code 71 = .ok (.ifCond .ne 5, 3) := by decide +kernel
theorem d_isBeforeInPartsBothGive_76 : decode prog_93_method_7_code 76 = .ok (.aload_n 2, 1) := by decide +kernel
theorem d_isBeforeInPartsBothGive_77 : decode prog_93_method_7_code 77 = .ok (.iload 4, 2) := by decide +kernel
theorem d_isBeforeInPartsBothGive_79 : decode prog_93_method_7_code 79 = .ok (.iaload, 1) := by decide +kernel
theorem d_isBeforeInPartsBothGive_80 : decode prog_93_method_7_code 80 = .ok (.aload_n 3, 1) := by decide +kernel
theorem d_isBeforeInPartsBothGive_81 : decode prog_93_method_7_code 81 = .ok (.iload 4, 2) := by decide +kernel
theorem d_isBeforeInPartsBothGive_83 : decode prog_93_method_7_code 83 = .ok (.iaload, 1) := by decide +kernel
theorem d_isBeforeInPartsBothGive_84 : decode prog_93_method_7_code 84 = .ok (.if_icmp .eq 20, 3) := by decide +kernel
theorem d_isBeforeInPartsBothGive_104 : decode prog_93_method_7_code 104 = .ok (.iinc 4 1, 3) := by decide +kernel
theorem d_isBeforeInPartsBothGive_107 : decode prog_93_method_7_code 107 = .ok (.goto (-54), 3) := by decide +kernel
theorem d_isBeforeInPartsBothGive_110 : decode prog_93_method_7_code 110 = .ok (.iconst 0, 1) := by decide +kernel
theorem d_isBeforeInPartsBothGive_111 : decode prog_93_method_7_code 111 = .ok (.ireturn, 1) := by decide +kernel
theorem d_isBeforeInPartsBothGive_87 : decode prog_93_method_7_code 87 = .ok (.aload_n 2, 1) := by decide +kernel
theorem d_isBeforeInPartsBothGive_88 : decode prog_93_method_7_code 88 = .ok (.iload 4, 2) := by decide +kernel
theorem d_isBeforeInPartsBothGive_90 : decode prog_93_method_7_code 90 = .ok (.iaload, 1) := by decide +kernel
theorem d_isBeforeInPartsBothGive_91 : decode prog_93_method_7_code 91 = .ok (.aload_n 3, 1) := by decide +kernel
theorem d_isBeforeInPartsBothGive_92 : decode prog_93_method_7_code 92 = .ok (.iload 4, 2) := by decide +kernel
theorem d_isBeforeInPartsBothGive_94 : decode prog_93_method_7_code 94 = .ok (.iaload, 1) := by decide +kernel
theorem d_isBeforeInPartsBothGive_95 : decode prog_93_method_7_code 95 = .ok (.if_icmp .ge 7, 3) := by decide +kernel
theorem d_isBeforeInPartsBothGive_102 : decode prog_93_method_7_code 102 = .ok (.iconst 0, 1) := by decide +kernel
theorem d_isBeforeInPartsBothGive_103 : decode prog_93_method_7_code 103 = .ok (.ireturn, 1) := by decide +kernel
theorem d_isBeforeInPartsBothGive_98 : decode prog_93_method_7_code 98 = .ok (.iconst 1, 1) := by decide +kernel
theorem d_isBeforeInPartsBothGive_99 : decode prog_93_method_7_code 99 = .ok (.goto 4, 3) := by decide +kernel
theorem pn_com_example_volkskern_volkskern_register_RegisterDateIsBeforeInPartsBothGivePinLaw : plainName "com/example/volkskern/volkskern/register/RegisterDateIsBeforeInPartsBothGivePinLaw" = true := by first | (simp [plainName, overriddenIn]; done) | decide +kernel
theorem d_expected_0 : decode method_3_code 0 = .ok (.iload_n 0, 1) := by decide +kernel
theorem d_expected_1 : decode method_3_code 1 = .ok (.ifCond .eq 7, 3) := by decide +kernel
theorem d_expected_8 : decode method_3_code 8 = .ok (.iconst 0, 1) := by decide +kernel
theorem d_expected_9 : decode method_3_code 9 = .ok (.ireturn, 1) := by decide +kernel
theorem d_expected_4 : decode method_3_code 4 = .ok (.iload_n 3, 1) := by decide +kernel
theorem d_expected_5 : decode method_3_code 5 = .ok (.ifCond .ne 5, 3) := by decide +kernel
theorem d_expected_10 : decode method_3_code 10 = .ok (.iload_n 0, 1) := by decide +kernel
theorem d_expected_11 : decode method_3_code 11 = .ok (.iload_n 3, 1) := by decide +kernel
theorem d_expected_12 : decode method_3_code 12 = .ok (.if_icmp .ge 5, 3) := by decide +kernel
theorem d_expected_17 : decode method_3_code 17 = .ok (.iload_n 0, 1) := by decide +kernel
theorem d_expected_18 : decode method_3_code 18 = .ok (.iload_n 3, 1) := by decide +kernel
theorem d_expected_19 : decode method_3_code 19 = .ok (.if_icmp .le 5, 3) := by decide +kernel
theorem d_expected_24 : decode method_3_code 24 = .ok (.iload_n 1, 1) := by decide +kernel
theorem d_expected_25 : decode method_3_code 25 = .ok (.ifCond .eq 8, 3) := by decide +kernel
theorem d_expected_33 : decode method_3_code 33 = .ok (.iconst 0, 1) := by decide +kernel
theorem d_expected_34 : decode method_3_code 34 = .ok (.ireturn, 1) := by decide +kernel
theorem d_expected_28 : decode method_3_code 28 = .ok (.iload 4, 2) := by decide +kernel
theorem d_expected_30 : decode method_3_code 30 = .ok (.ifCond .ne 5, 3) := by decide +kernel
theorem d_expected_35 : decode method_3_code 35 = .ok (.iload_n 1, 1) := by decide +kernel
theorem d_expected_36 : decode method_3_code 36 = .ok (.iload 4, 2) := by decide +kernel
theorem d_expected_38 : decode method_3_code 38 = .ok (.if_icmp .ge 5, 3) := by decide +kernel
theorem d_expected_43 : decode method_3_code 43 = .ok (.iload_n 1, 1) := by decide +kernel
theorem d_expected_44 : decode method_3_code 44 = .ok (.iload 4, 2) := by decide +kernel
theorem d_expected_46 : decode method_3_code 46 = .ok (.if_icmp .le 5, 3) := by decide +kernel
theorem d_expected_51 : decode method_3_code 51 = .ok (.iload_n 2, 1) := by decide +kernel
theorem d_expected_52 : decode method_3_code 52 = .ok (.ifCond .eq 8, 3) := by decide +kernel
theorem d_expected_60 : decode method_3_code 60 = .ok (.iconst 0, 1) := by decide +kernel
theorem d_expected_61 : decode method_3_code 61 = .ok (.ireturn, 1) := by decide +kernel
theorem d_expected_55 : decode method_3_code 55 = .ok (.iload 5, 2) := by decide +kernel
theorem d_expected_57 : decode method_3_code 57 = .ok (.ifCond .ne 5, 3) := by decide +kernel
theorem d_expected_62 : decode method_3_code 62 = .ok (.iload_n 2, 1) := by decide +kernel
theorem d_expected_63 : decode method_3_code 63 = .ok (.iload 5, 2) := by decide +kernel
theorem d_expected_65 : decode method_3_code 65 = .ok (.if_icmp .ge 7, 3) := by decide +kernel
theorem d_expected_72 : decode method_3_code 72 = .ok (.iconst 0, 1) := by decide +kernel
theorem d_expected_73 : decode method_3_code 73 = .ok (.ireturn, 1) := by decide +kernel
theorem d_expected_68 : decode method_3_code 68 = .ok (.iconst 1, 1) := by decide +kernel
theorem d_expected_69 : decode method_3_code 69 = .ok (.goto 4, 3) := by decide +kernel
theorem d_expected_49 : decode method_3_code 49 = .ok (.iconst 0, 1) := by decide +kernel
theorem d_expected_50 : decode method_3_code 50 = .ok (.ireturn, 1) := by decide +kernel
theorem d_expected_41 : decode method_3_code 41 = .ok (.iconst 1, 1) := by decide +kernel
theorem d_expected_42 : decode method_3_code 42 = .ok (.ireturn, 1) := by decide +kernel
theorem d_expected_22 : decode method_3_code 22 = .ok (.iconst 0, 1) := by decide +kernel
theorem d_expected_23 : decode method_3_code 23 = .ok (.ireturn, 1) := by decide +kernel
theorem d_expected_15 : decode method_3_code 15 = .ok (.iconst 1, 1) := by decide +kernel
theorem d_expected_16 : decode method_3_code 16 = .ok (.ireturn, 1) := by decide +kernel
theorem pd_init_RegisterDate : parseMethodDescriptor "(III)V" = some ⟨[.int, .int, .int], none⟩ := by decide +kernel
theorem pd_isBeforeInPartsBothGive : parseMethodDescriptor "(Lcom/example/volkskern/volkskern/register/RegisterDate;)Z" = some ⟨[.object "com/example/volkskern/volkskern/register/RegisterDate"], (some .boolean)⟩ := by decide +kernel
theorem pd_expected : parseMethodDescriptor "(IIIIII)Z" = some ⟨[.int, .int, .int, .int, .int, .int], (some .boolean)⟩ := by decide +kernel
set_option maxRecDepth 65536 in
set_option maxHeartbeats 40000000 in
theorem con_rec (l : Launch) (Z : State) (a0 : Array Value) (hw : ∀ d ∈ tables_1, d.before a0 Z = true) (a1 : Addr) (h0 : Heap) (n0 : Nat) (Z0 : n0 ≤ h0.size)  : Con l Z (⟨"java/lang/Record", "<init>", "()V"⟩ : MethodName) jdk_30_method_1_code 1 none ({ frames := 1, cells := 0, slots := 0, locals := 12 } : Room) #[(.ref a1)] h0 n0 0 0 (fun v h => v = none ∧ h0 = h) := by
  refine Con.of_body (ls := #[.val (.ref a1)]) pn_java_lang_Record (fun m => by first | (simp [entryFrame, mkF, argsToLocals, Value.category]; done) | rfl) Z0 (fun p e s m below meth c T (X : Here p l e ({ frames := 1, cells := 0, slots := 0, locals := 12 } : Room) s m #[(.ref a1)] below meth c Z "java/lang/Record" "<init>" jdk_30_method_1_code 1 none n0 T h0 0 0) => ?_)
  refine r_aloadN X (pc' := 1) d_init_Record_0 rfl rfl ?_
  refine r_initObject X (pc' := 4) (W := 0) d_init_Record_1 (wd hw 11 rfl) (wd hw 12 rfl) (wd hw 13 rfl) rfl (by decide) rfl (by decide) rfl (fun T1 X2 => ?_)
  show Run p e below _ _ (mkF m 4 #[.val (.ref a1)] [])
  exact r_ret X2 d_init_Record_4 ⟨rfl, rfl⟩ (by decide) (by decide)
set_option maxRecDepth 65536 in
set_option maxHeartbeats 40000000 in
theorem con_init (l : Launch) (Z : State) (a0 : Array Value) (hw : ∀ d ∈ tables_1, d.before a0 Z = true) (a1 : Addr) (q1 : Int32) (q2 : Int32) (q3 : Int32) (u_day : Value) (u_month : Value) (u_year : Value) (h0 : Heap) (n0 : Nat) (Z0 : n0 ≤ h0.size) (E_a1 : Exa Z h0 a1 "com/example/volkskern/volkskern/register/RegisterDate") (F_day : Fld Z h0 a1 "com/example/volkskern/volkskern/register/RegisterDate" "day" "I" u_day) (F_month : Fld Z h0 a1 "com/example/volkskern/volkskern/register/RegisterDate" "month" "I" u_month) (F_year : Fld Z h0 a1 "com/example/volkskern/volkskern/register/RegisterDate" "year" "I" u_year) (g_a1 : n0 ≤ a1) : Con l Z (⟨"com/example/volkskern/volkskern/register/RegisterDate", "<init>", "(III)V"⟩ : MethodName) prog_93_method_1_code 4 none ({ frames := 2, cells := 0, slots := 0, locals := 24 } : Room) #[(.ref a1), (.int q1), (.int q2), (.int q3)] h0 n0 0 0 (fun v h => v = none ∧ Keep h0 h [a1] ∧ Fld Z h a1 "com/example/volkskern/volkskern/register/RegisterDate" "day" "I" (.int q1) ∧ Fld Z h a1 "com/example/volkskern/volkskern/register/RegisterDate" "month" "I" (.int q2) ∧ Fld Z h a1 "com/example/volkskern/volkskern/register/RegisterDate" "year" "I" (.int q3)) := by
  refine Con.of_body (ls := #[.val (.ref a1), .val (.int q1), .val (.int q2), .val (.int q3)]) pn_com_example_volkskern_volkskern_register_RegisterDate (fun m => by first | (simp [entryFrame, mkF, argsToLocals, Value.category]; done) | rfl) Z0 (fun p e s m below meth c T (X : Here p l e ({ frames := 2, cells := 0, slots := 0, locals := 24 } : Room) s m #[(.ref a1), (.int q1), (.int q2), (.int q3)] below meth c Z "com/example/volkskern/volkskern/register/RegisterDate" "<init>" prog_93_method_1_code 4 none n0 T h0 0 0) => ?_)
  refine r_aloadN X (pc' := 1) d_init_RegisterDate_0 rfl rfl ?_
  refine r_init X (pc' := 4) d_init_RegisterDate_1 (con_rec l Z a0 hw a1 h0 n0 Z0) rfl (wd hw 6 rfl) (wd hw 7 rfl) (wd hw 9 rfl) (wd hw 10 rfl) (by decide) (argsL := []) (rest := []) (W := 0) rfl rfl pd_init_Record rfl rfl (by decide) (by decide) (by decide) (by decide) rfl (fun v3 T4 h5 X6 QQ7 => ?_)
  obtain ⟨rfl, rfl⟩ := QQ7
  show Run p e below _ _ (mkF m 4 #[.val (.ref a1), .val (.int q1), .val (.int q2), .val (.int q3)] [])
  have K0 := Keep.refl h0 [a1]
  refine r_aloadN X6 (pc' := 5) d_init_RegisterDate_4 rfl rfl ?_
  refine r_iloadN X6 (pc' := 6) d_init_RegisterDate_5 rfl rfl ?_
  refine r_putfield X6 (pc' := 9) (ty := .int) d_init_RegisterDate_6 (wd hw 14 rfl) F_day E_a1 (Or.inr ⟨(wd hw 15 rfl), rfl, rfl⟩) (wd hw 1 rfl) (by decide) rfl rfl g_a1 rfl (fun T8 h9 X10 W11 => ?_)
  have f12 := E_a1.wr W11
  have f13 := F_day.same W11
  have f14 := F_month.other W11 (Or.inr (slot_ne (C := "com/example/volkskern/volkskern/register/RegisterDate") (Or.inr (wd hw 17 rfl)) (Or.inr (wd hw 15 rfl)) (by decide) (t := .int) (t' := .int) (by decide) (by decide)))
  have f15 := F_year.other W11 (Or.inr (slot_ne (C := "com/example/volkskern/volkskern/register/RegisterDate") (Or.inr (wd hw 19 rfl)) (Or.inr (wd hw 15 rfl)) (by decide) (t := .int) (t' := .int) (by decide) (by decide)))
  have K16 := K0.wr W11 (Or.inl (List.mem_of_getElem? (i := 0) rfl))
  refine r_aloadN X10 (pc' := 10) d_init_RegisterDate_9 rfl rfl ?_
  refine r_iloadN X10 (pc' := 11) d_init_RegisterDate_10 rfl rfl ?_
  refine r_putfield X10 (pc' := 14) (ty := .int) d_init_RegisterDate_11 (wd hw 16 rfl) f14 f12 (Or.inr ⟨(wd hw 17 rfl), rfl, rfl⟩) (wd hw 1 rfl) (by decide) rfl rfl g_a1 rfl (fun T17 h18 X19 W20 => ?_)
  have f21 := f12.wr W20
  have f22 := f13.other W20 (Or.inr (slot_ne (C := "com/example/volkskern/volkskern/register/RegisterDate") (Or.inr (wd hw 15 rfl)) (Or.inr (wd hw 17 rfl)) (by decide) (t := .int) (t' := .int) (by decide) (by decide)))
  have f23 := f14.same W20
  have f24 := f15.other W20 (Or.inr (slot_ne (C := "com/example/volkskern/volkskern/register/RegisterDate") (Or.inr (wd hw 19 rfl)) (Or.inr (wd hw 17 rfl)) (by decide) (t := .int) (t' := .int) (by decide) (by decide)))
  have K25 := K16.wr W20 (Or.inl (List.mem_of_getElem? (i := 0) rfl))
  refine r_aloadN X19 (pc' := 15) d_init_RegisterDate_14 rfl rfl ?_
  refine r_iloadN X19 (pc' := 16) d_init_RegisterDate_15 rfl rfl ?_
  refine r_putfield X19 (pc' := 19) (ty := .int) d_init_RegisterDate_16 (wd hw 18 rfl) f24 f21 (Or.inr ⟨(wd hw 19 rfl), rfl, rfl⟩) (wd hw 1 rfl) (by decide) rfl rfl g_a1 rfl (fun T26 h27 X28 W29 => ?_)
  have f30 := f21.wr W29
  have f31 := f22.other W29 (Or.inr (slot_ne (C := "com/example/volkskern/volkskern/register/RegisterDate") (Or.inr (wd hw 15 rfl)) (Or.inr (wd hw 19 rfl)) (by decide) (t := .int) (t' := .int) (by decide) (by decide)))
  have f32 := f23.other W29 (Or.inr (slot_ne (C := "com/example/volkskern/volkskern/register/RegisterDate") (Or.inr (wd hw 17 rfl)) (Or.inr (wd hw 19 rfl)) (by decide) (t := .int) (t' := .int) (by decide) (by decide)))
  have f33 := f24.same W29
  have K34 := K25.wr W29 (Or.inl (List.mem_of_getElem? (i := 0) rfl))
  exact r_ret X28 d_init_RegisterDate_19 ⟨rfl, K34, f31, f32, f33⟩ (by decide) (by decide)
set_option maxRecDepth 65536 in
set_option maxHeartbeats 40000000 in
theorem con_f (l : Launch) (Z : State) (a0 : Array Value) (hw : ∀ d ∈ tables_1, d.before a0 Z = true) (a1 a2 : Addr) (y1 m1 d1 y2 m2 d2 : Int32) (h0 : Heap) (n0 : Nat) (Z0 : n0 ≤ h0.size) (F_a1_year : Fld Z h0 a1 "com/example/volkskern/volkskern/register/RegisterDate" "year" "I" (.int y1)) (F_a1_month : Fld Z h0 a1 "com/example/volkskern/volkskern/register/RegisterDate" "month" "I" (.int m1)) (F_a1_day : Fld Z h0 a1 "com/example/volkskern/volkskern/register/RegisterDate" "day" "I" (.int d1)) (F_a2_year : Fld Z h0 a2 "com/example/volkskern/volkskern/register/RegisterDate" "year" "I" (.int y2)) (F_a2_month : Fld Z h0 a2 "com/example/volkskern/volkskern/register/RegisterDate" "month" "I" (.int m2)) (F_a2_day : Fld Z h0 a2 "com/example/volkskern/volkskern/register/RegisterDate" "day" "I" (.int d2)) : Con l Z (⟨"com/example/volkskern/volkskern/register/RegisterDate", "isBeforeInPartsBothGive", "(Lcom/example/volkskern/volkskern/register/RegisterDate;)Z"⟩ : MethodName) prog_93_method_7_code 5 (some .boolean) ({ frames := 0, cells := 2, slots := 6, locals := 0 } : Room) #[(.ref a1), (.ref a2)] h0 n0 2 6 (fun v h => ∃ z : Int32, v = some (.int z) ∧ (z.toInt = 1 ∧ (¬ y1.toInt = 0 ∧ ¬ y2.toInt = 0 ∧ (y1.toInt < y2.toInt ∨ (y1.toInt = y2.toInt ∧ ¬ m1.toInt = 0 ∧ ¬ m2.toInt = 0 ∧ (m1.toInt < m2.toInt ∨ (m1.toInt = m2.toInt ∧ ¬ d1.toInt = 0 ∧ ¬ d2.toInt = 0 ∧ d1.toInt < d2.toInt))))) ∨ z.toInt = 0 ∧ ¬ (¬ y1.toInt = 0 ∧ ¬ y2.toInt = 0 ∧ (y1.toInt < y2.toInt ∨ (y1.toInt = y2.toInt ∧ ¬ m1.toInt = 0 ∧ ¬ m2.toInt = 0 ∧ (m1.toInt < m2.toInt ∨ (m1.toInt = m2.toInt ∧ ¬ d1.toInt = 0 ∧ ¬ d2.toInt = 0 ∧ d1.toInt < d2.toInt))))))) := by
  refine Con.of_body (ls := #[.val (.ref a1), .val (.ref a2), .unset, .unset, .unset]) pn_com_example_volkskern_volkskern_register_RegisterDate (fun m => by first | (simp [entryFrame, mkF, argsToLocals, Value.category]; done) | rfl) Z0 (fun p e s m below meth c T (X : Here p l e ({ frames := 0, cells := 2, slots := 6, locals := 0 } : Room) s m #[(.ref a1), (.ref a2)] below meth c Z "com/example/volkskern/volkskern/register/RegisterDate" "isBeforeInPartsBothGive" prog_93_method_7_code 5 (some .boolean) n0 T h0 0 0) => ?_)
  refine r_iconst X (pc' := 1) (v := (3 : Int32)) d_isBeforeInPartsBothGive_0 rfl rfl ?_
  refine r_newarray X (pc' := 3) (N := 3) d_isBeforeInPartsBothGive_1 (wd hw 25 rfl) rfl rfl (by decide) (by decide) (by decide) rfl (fun T35 h36 b37 X38 ebb37 geb37 E39 A40 => ?_)
  have ne41 : a1 ≠ b37 := Nat.ne_of_lt (by rw [ebb37]; exact F_a1_year.lt)
  have ne42 : a2 ≠ b37 := Nat.ne_of_lt (by rw [ebb37]; exact F_a2_year.lt)
  have f43 := F_a1_year.ext E39
  have f44 := F_a1_month.ext E39
  have f45 := F_a1_day.ext E39
  have f46 := F_a2_year.ext E39
  have f47 := F_a2_month.ext E39
  have f48 := F_a2_day.ext E39
  refine r_dup X38 (pc' := 4) d_isBeforeInPartsBothGive_3 rfl rfl ?_
  refine r_iconst X38 (pc' := 5) (v := (0 : Int32)) d_isBeforeInPartsBothGive_4 rfl rfl ?_
  refine r_aloadN X38 (pc' := 6) d_isBeforeInPartsBothGive_5 rfl rfl ?_
  refine r_getfield X38 (pc' := 9) d_isBeforeInPartsBothGive_6 (wd hw 18 rfl) f43 rfl (fun T49 X50 => ?_)
  refine r_iastore X50 (pc' := 10) (i := 0) d_isBeforeInPartsBothGive_9 A40 rfl (by decide) geb37 rfl rfl (fun T51 h52 X53 W54 A55 => ?_)
  have f56 := f43.other W54 (Or.inl ne41)
  have f57 := f44.other W54 (Or.inl ne41)
  have f58 := f45.other W54 (Or.inl ne41)
  have f59 := f46.other W54 (Or.inl ne42)
  have f60 := f47.other W54 (Or.inl ne42)
  have f61 := f48.other W54 (Or.inl ne42)
  refine r_dup X53 (pc' := 11) d_isBeforeInPartsBothGive_10 rfl rfl ?_
  refine r_iconst X53 (pc' := 12) (v := (1 : Int32)) d_isBeforeInPartsBothGive_11 rfl rfl ?_
  refine r_aloadN X53 (pc' := 13) d_isBeforeInPartsBothGive_12 rfl rfl ?_
  refine r_getfield X53 (pc' := 16) d_isBeforeInPartsBothGive_13 (wd hw 16 rfl) f57 rfl (fun T62 X63 => ?_)
  refine r_iastore X63 (pc' := 17) (i := 1) d_isBeforeInPartsBothGive_16 A55 rfl (by decide) geb37 rfl rfl (fun T64 h65 X66 W67 A68 => ?_)
  have f69 := f56.other W67 (Or.inl ne41)
  have f70 := f57.other W67 (Or.inl ne41)
  have f71 := f58.other W67 (Or.inl ne41)
  have f72 := f59.other W67 (Or.inl ne42)
  have f73 := f60.other W67 (Or.inl ne42)
  have f74 := f61.other W67 (Or.inl ne42)
  refine r_dup X66 (pc' := 18) d_isBeforeInPartsBothGive_17 rfl rfl ?_
  refine r_iconst X66 (pc' := 19) (v := (2 : Int32)) d_isBeforeInPartsBothGive_18 rfl rfl ?_
  refine r_aloadN X66 (pc' := 20) d_isBeforeInPartsBothGive_19 rfl rfl ?_
  refine r_getfield X66 (pc' := 23) d_isBeforeInPartsBothGive_20 (wd hw 14 rfl) f71 rfl (fun T75 X76 => ?_)
  refine r_iastore X76 (pc' := 24) (i := 2) d_isBeforeInPartsBothGive_23 A68 rfl (by decide) geb37 rfl rfl (fun T77 h78 X79 W80 A81 => ?_)
  have f82 := f69.other W80 (Or.inl ne41)
  have f83 := f70.other W80 (Or.inl ne41)
  have f84 := f71.other W80 (Or.inl ne41)
  have f85 := f72.other W80 (Or.inl ne42)
  have f86 := f73.other W80 (Or.inl ne42)
  have f87 := f74.other W80 (Or.inl ne42)
  refine r_astoreN X79 (pc' := 25) (ls' := #[.val (.ref a1), .val (.ref a2), .val (.ref b37), .unset, .unset]) d_isBeforeInPartsBothGive_24 rfl rfl ?_
  refine r_iconst X79 (pc' := 26) (v := (3 : Int32)) d_isBeforeInPartsBothGive_25 rfl rfl ?_
  refine r_newarray X79 (pc' := 28) (N := 3) d_isBeforeInPartsBothGive_26 (wd hw 25 rfl) rfl rfl (by decide) (by decide) (by decide) rfl (fun T88 h89 b90 X91 ebb90 geb90 E92 A93 => ?_)
  have ne94 : a1 ≠ b90 := Nat.ne_of_lt (by rw [ebb90]; exact f82.lt)
  have ne95 : a2 ≠ b90 := Nat.ne_of_lt (by rw [ebb90]; exact f85.lt)
  have ne96 : b37 ≠ b90 := Nat.ne_of_lt (by rw [ebb90]; exact A81.lt)
  have f97 := f82.ext E92
  have f98 := f83.ext E92
  have f99 := f84.ext E92
  have f100 := f85.ext E92
  have f101 := f86.ext E92
  have f102 := f87.ext E92
  have f103 := A81.ext E92
  refine r_dup X91 (pc' := 29) d_isBeforeInPartsBothGive_28 rfl rfl ?_
  refine r_iconst X91 (pc' := 30) (v := (0 : Int32)) d_isBeforeInPartsBothGive_29 rfl rfl ?_
  refine r_aloadN X91 (pc' := 31) d_isBeforeInPartsBothGive_30 rfl rfl ?_
  refine r_getfield X91 (pc' := 34) d_isBeforeInPartsBothGive_31 (wd hw 18 rfl) f100 rfl (fun T104 X105 => ?_)
  refine r_iastore X105 (pc' := 35) (i := 0) d_isBeforeInPartsBothGive_34 A93 rfl (by decide) geb90 rfl rfl (fun T106 h107 X108 W109 A110 => ?_)
  have f111 := f97.other W109 (Or.inl ne94)
  have f112 := f98.other W109 (Or.inl ne94)
  have f113 := f99.other W109 (Or.inl ne94)
  have f114 := f100.other W109 (Or.inl ne95)
  have f115 := f101.other W109 (Or.inl ne95)
  have f116 := f102.other W109 (Or.inl ne95)
  have f117 := f103.other W109 ne96
  refine r_dup X108 (pc' := 36) d_isBeforeInPartsBothGive_35 rfl rfl ?_
  refine r_iconst X108 (pc' := 37) (v := (1 : Int32)) d_isBeforeInPartsBothGive_36 rfl rfl ?_
  refine r_aloadN X108 (pc' := 38) d_isBeforeInPartsBothGive_37 rfl rfl ?_
  refine r_getfield X108 (pc' := 41) d_isBeforeInPartsBothGive_38 (wd hw 16 rfl) f115 rfl (fun T118 X119 => ?_)
  refine r_iastore X119 (pc' := 42) (i := 1) d_isBeforeInPartsBothGive_41 A110 rfl (by decide) geb90 rfl rfl (fun T120 h121 X122 W123 A124 => ?_)
  have f125 := f111.other W123 (Or.inl ne94)
  have f126 := f112.other W123 (Or.inl ne94)
  have f127 := f113.other W123 (Or.inl ne94)
  have f128 := f114.other W123 (Or.inl ne95)
  have f129 := f115.other W123 (Or.inl ne95)
  have f130 := f116.other W123 (Or.inl ne95)
  have f131 := f117.other W123 ne96
  refine r_dup X122 (pc' := 43) d_isBeforeInPartsBothGive_42 rfl rfl ?_
  refine r_iconst X122 (pc' := 44) (v := (2 : Int32)) d_isBeforeInPartsBothGive_43 rfl rfl ?_
  refine r_aloadN X122 (pc' := 45) d_isBeforeInPartsBothGive_44 rfl rfl ?_
  refine r_getfield X122 (pc' := 48) d_isBeforeInPartsBothGive_45 (wd hw 14 rfl) f130 rfl (fun T132 X133 => ?_)
  refine r_iastore X133 (pc' := 49) (i := 2) d_isBeforeInPartsBothGive_48 A124 rfl (by decide) geb90 rfl rfl (fun T134 h135 X136 W137 A138 => ?_)
  have f139 := f125.other W137 (Or.inl ne94)
  have f140 := f126.other W137 (Or.inl ne94)
  have f141 := f127.other W137 (Or.inl ne94)
  have f142 := f128.other W137 (Or.inl ne95)
  have f143 := f129.other W137 (Or.inl ne95)
  have f144 := f130.other W137 (Or.inl ne95)
  have f145 := f131.other W137 ne96
  refine r_astoreN X136 (pc' := 50) (ls' := #[.val (.ref a1), .val (.ref a2), .val (.ref b37), .val (.ref b90), .unset]) d_isBeforeInPartsBothGive_49 rfl rfl ?_
  refine r_iconst X136 (pc' := 51) (v := (0 : Int32)) d_isBeforeInPartsBothGive_50 rfl rfl ?_
  refine r_istore X136 (pc' := 53) (ls' := #[.val (.ref a1), .val (.ref a2), .val (.ref b37), .val (.ref b90), .val (.int (0 : Int32))]) d_isBeforeInPartsBothGive_51 rfl rfl ?_
  refine r_iload X136 (pc' := 55) d_isBeforeInPartsBothGive_53 rfl rfl ?_
  refine r_aloadN X136 (pc' := 56) d_isBeforeInPartsBothGive_55 rfl rfl ?_
  refine r_arraylength X136 (pc' := 57) (v := (3 : Int32)) d_isBeforeInPartsBothGive_56 f145 rfl rfl ?_
  refine r_icmpN X136 (pc2 := 60) d_isBeforeInPartsBothGive_57 (by decide) rfl (a := 0) (b := 3) rfl rfl (show ¬ (3 ≤ 0) from (by decide)) ?_
  refine r_aloadN X136 (pc' := 61) d_isBeforeInPartsBothGive_60 rfl rfl ?_
  refine r_iload X136 (pc' := 63) d_isBeforeInPartsBothGive_61 rfl rfl ?_
  refine r_iaload X136 (pc' := 64) (i := 0) (v := y1) d_isBeforeInPartsBothGive_63 f145 rfl (by decide) rfl rfl ?_
  refine r_if X136 (pc' := 74) (pc2 := 67) d_isBeforeInPartsBothGive_64 (by decide) (by decide) rfl (a := y1.toInt) (b := 0) rfl rfl (fun (cq146 : y1.toInt = 0) => ?_) (fun (cq146 : ¬ (y1.toInt = 0)) => ?_)
  · refine r_iconst X136 (pc' := 75) (v := (0 : Int32)) d_isBeforeInPartsBothGive_74 rfl rfl ?_
    exact r_retN X136 (by simp) d_isBeforeInPartsBothGive_75 (z := (0 : Int32)) (w := (0 : Int32)) rfl ⟨_, rfl, Or.inr ⟨rfl, by omega⟩⟩ (by decide) (by decide)
  · refine r_aloadN X136 (pc' := 68) d_isBeforeInPartsBothGive_67 rfl rfl ?_
    refine r_iload X136 (pc' := 70) d_isBeforeInPartsBothGive_68 rfl rfl ?_
    refine r_iaload X136 (pc' := 71) (i := 0) (v := y2) d_isBeforeInPartsBothGive_70 A138 rfl (by decide) rfl rfl ?_
    refine r_if X136 (pc' := 76) (pc2 := 74) d_isBeforeInPartsBothGive_71 (by decide) (by decide) rfl (a := y2.toInt) (b := 0) rfl rfl (fun (cq147 : ¬ y2.toInt = 0) => ?_) (fun (cq147 : ¬ (¬ y2.toInt = 0)) => ?_)
    · refine r_aloadN X136 (pc' := 77) d_isBeforeInPartsBothGive_76 rfl rfl ?_
      refine r_iload X136 (pc' := 79) d_isBeforeInPartsBothGive_77 rfl rfl ?_
      refine r_iaload X136 (pc' := 80) (i := 0) (v := y1) d_isBeforeInPartsBothGive_79 f145 rfl (by decide) rfl rfl ?_
      refine r_aloadN X136 (pc' := 81) d_isBeforeInPartsBothGive_80 rfl rfl ?_
      refine r_iload X136 (pc' := 83) d_isBeforeInPartsBothGive_81 rfl rfl ?_
      refine r_iaload X136 (pc' := 84) (i := 0) (v := y2) d_isBeforeInPartsBothGive_83 A138 rfl (by decide) rfl rfl ?_
      refine r_icmp X136 (pc' := 104) (pc2 := 87) d_isBeforeInPartsBothGive_84 (by decide) (by decide) rfl (a := y1.toInt) (b := y2.toInt) rfl rfl (fun (cq148 : y1.toInt = y2.toInt) => ?_) (fun (cq148 : ¬ (y1.toInt = y2.toInt)) => ?_)
      · refine r_iinc X136 (pc' := 107) (z := (1 : Int32)) (ls' := #[.val (.ref a1), .val (.ref a2), .val (.ref b37), .val (.ref b90), .val (.int (1 : Int32))]) d_isBeforeInPartsBothGive_104 rfl rfl rfl rfl ?_
        refine r_goto X136 (pc' := 53) d_isBeforeInPartsBothGive_107 (by decide) (by decide) ?_
        refine r_iload X136 (pc' := 55) d_isBeforeInPartsBothGive_53 rfl rfl ?_
        refine r_aloadN X136 (pc' := 56) d_isBeforeInPartsBothGive_55 rfl rfl ?_
        refine r_arraylength X136 (pc' := 57) (v := (3 : Int32)) d_isBeforeInPartsBothGive_56 f145 rfl rfl ?_
        refine r_icmpN X136 (pc2 := 60) d_isBeforeInPartsBothGive_57 (by decide) rfl (a := 1) (b := 3) rfl rfl (show ¬ (3 ≤ 1) from (by decide)) ?_
        refine r_aloadN X136 (pc' := 61) d_isBeforeInPartsBothGive_60 rfl rfl ?_
        refine r_iload X136 (pc' := 63) d_isBeforeInPartsBothGive_61 rfl rfl ?_
        refine r_iaload X136 (pc' := 64) (i := 1) (v := m1) d_isBeforeInPartsBothGive_63 f145 rfl (by decide) rfl rfl ?_
        refine r_if X136 (pc' := 74) (pc2 := 67) d_isBeforeInPartsBothGive_64 (by decide) (by decide) rfl (a := m1.toInt) (b := 0) rfl rfl (fun (cq149 : m1.toInt = 0) => ?_) (fun (cq149 : ¬ (m1.toInt = 0)) => ?_)
        · refine r_iconst X136 (pc' := 75) (v := (0 : Int32)) d_isBeforeInPartsBothGive_74 rfl rfl ?_
          exact r_retN X136 (by simp) d_isBeforeInPartsBothGive_75 (z := (0 : Int32)) (w := (0 : Int32)) rfl ⟨_, rfl, Or.inr ⟨rfl, by omega⟩⟩ (by decide) (by decide)
        · refine r_aloadN X136 (pc' := 68) d_isBeforeInPartsBothGive_67 rfl rfl ?_
          refine r_iload X136 (pc' := 70) d_isBeforeInPartsBothGive_68 rfl rfl ?_
          refine r_iaload X136 (pc' := 71) (i := 1) (v := m2) d_isBeforeInPartsBothGive_70 A138 rfl (by decide) rfl rfl ?_
          refine r_if X136 (pc' := 76) (pc2 := 74) d_isBeforeInPartsBothGive_71 (by decide) (by decide) rfl (a := m2.toInt) (b := 0) rfl rfl (fun (cq150 : ¬ m2.toInt = 0) => ?_) (fun (cq150 : ¬ (¬ m2.toInt = 0)) => ?_)
          · refine r_aloadN X136 (pc' := 77) d_isBeforeInPartsBothGive_76 rfl rfl ?_
            refine r_iload X136 (pc' := 79) d_isBeforeInPartsBothGive_77 rfl rfl ?_
            refine r_iaload X136 (pc' := 80) (i := 1) (v := m1) d_isBeforeInPartsBothGive_79 f145 rfl (by decide) rfl rfl ?_
            refine r_aloadN X136 (pc' := 81) d_isBeforeInPartsBothGive_80 rfl rfl ?_
            refine r_iload X136 (pc' := 83) d_isBeforeInPartsBothGive_81 rfl rfl ?_
            refine r_iaload X136 (pc' := 84) (i := 1) (v := m2) d_isBeforeInPartsBothGive_83 A138 rfl (by decide) rfl rfl ?_
            refine r_icmp X136 (pc' := 104) (pc2 := 87) d_isBeforeInPartsBothGive_84 (by decide) (by decide) rfl (a := m1.toInt) (b := m2.toInt) rfl rfl (fun (cq151 : m1.toInt = m2.toInt) => ?_) (fun (cq151 : ¬ (m1.toInt = m2.toInt)) => ?_)
            · refine r_iinc X136 (pc' := 107) (z := (2 : Int32)) (ls' := #[.val (.ref a1), .val (.ref a2), .val (.ref b37), .val (.ref b90), .val (.int (2 : Int32))]) d_isBeforeInPartsBothGive_104 rfl rfl rfl rfl ?_
              refine r_goto X136 (pc' := 53) d_isBeforeInPartsBothGive_107 (by decide) (by decide) ?_
              refine r_iload X136 (pc' := 55) d_isBeforeInPartsBothGive_53 rfl rfl ?_
              refine r_aloadN X136 (pc' := 56) d_isBeforeInPartsBothGive_55 rfl rfl ?_
              refine r_arraylength X136 (pc' := 57) (v := (3 : Int32)) d_isBeforeInPartsBothGive_56 f145 rfl rfl ?_
              refine r_icmpN X136 (pc2 := 60) d_isBeforeInPartsBothGive_57 (by decide) rfl (a := 2) (b := 3) rfl rfl (show ¬ (3 ≤ 2) from (by decide)) ?_
              refine r_aloadN X136 (pc' := 61) d_isBeforeInPartsBothGive_60 rfl rfl ?_
              refine r_iload X136 (pc' := 63) d_isBeforeInPartsBothGive_61 rfl rfl ?_
              refine r_iaload X136 (pc' := 64) (i := 2) (v := d1) d_isBeforeInPartsBothGive_63 f145 rfl (by decide) rfl rfl ?_
              refine r_if X136 (pc' := 74) (pc2 := 67) d_isBeforeInPartsBothGive_64 (by decide) (by decide) rfl (a := d1.toInt) (b := 0) rfl rfl (fun (cq152 : d1.toInt = 0) => ?_) (fun (cq152 : ¬ (d1.toInt = 0)) => ?_)
              · refine r_iconst X136 (pc' := 75) (v := (0 : Int32)) d_isBeforeInPartsBothGive_74 rfl rfl ?_
                exact r_retN X136 (by simp) d_isBeforeInPartsBothGive_75 (z := (0 : Int32)) (w := (0 : Int32)) rfl ⟨_, rfl, Or.inr ⟨rfl, by omega⟩⟩ (by decide) (by decide)
              · refine r_aloadN X136 (pc' := 68) d_isBeforeInPartsBothGive_67 rfl rfl ?_
                refine r_iload X136 (pc' := 70) d_isBeforeInPartsBothGive_68 rfl rfl ?_
                refine r_iaload X136 (pc' := 71) (i := 2) (v := d2) d_isBeforeInPartsBothGive_70 A138 rfl (by decide) rfl rfl ?_
                refine r_if X136 (pc' := 76) (pc2 := 74) d_isBeforeInPartsBothGive_71 (by decide) (by decide) rfl (a := d2.toInt) (b := 0) rfl rfl (fun (cq153 : ¬ d2.toInt = 0) => ?_) (fun (cq153 : ¬ (¬ d2.toInt = 0)) => ?_)
                · refine r_aloadN X136 (pc' := 77) d_isBeforeInPartsBothGive_76 rfl rfl ?_
                  refine r_iload X136 (pc' := 79) d_isBeforeInPartsBothGive_77 rfl rfl ?_
                  refine r_iaload X136 (pc' := 80) (i := 2) (v := d1) d_isBeforeInPartsBothGive_79 f145 rfl (by decide) rfl rfl ?_
                  refine r_aloadN X136 (pc' := 81) d_isBeforeInPartsBothGive_80 rfl rfl ?_
                  refine r_iload X136 (pc' := 83) d_isBeforeInPartsBothGive_81 rfl rfl ?_
                  refine r_iaload X136 (pc' := 84) (i := 2) (v := d2) d_isBeforeInPartsBothGive_83 A138 rfl (by decide) rfl rfl ?_
                  refine r_icmp X136 (pc' := 104) (pc2 := 87) d_isBeforeInPartsBothGive_84 (by decide) (by decide) rfl (a := d1.toInt) (b := d2.toInt) rfl rfl (fun (cq154 : d1.toInt = d2.toInt) => ?_) (fun (cq154 : ¬ (d1.toInt = d2.toInt)) => ?_)
                  · refine r_iinc X136 (pc' := 107) (z := (3 : Int32)) (ls' := #[.val (.ref a1), .val (.ref a2), .val (.ref b37), .val (.ref b90), .val (.int (3 : Int32))]) d_isBeforeInPartsBothGive_104 rfl rfl rfl rfl ?_
                    refine r_goto X136 (pc' := 53) d_isBeforeInPartsBothGive_107 (by decide) (by decide) ?_
                    refine r_iload X136 (pc' := 55) d_isBeforeInPartsBothGive_53 rfl rfl ?_
                    refine r_aloadN X136 (pc' := 56) d_isBeforeInPartsBothGive_55 rfl rfl ?_
                    refine r_arraylength X136 (pc' := 57) (v := (3 : Int32)) d_isBeforeInPartsBothGive_56 f145 rfl rfl ?_
                    refine r_icmpY X136 (pc' := 110) d_isBeforeInPartsBothGive_57 (by decide) (by decide) (a := 3) (b := 3) rfl rfl (show 3 ≤ 3 from (by decide)) ?_
                    refine r_iconst X136 (pc' := 111) (v := (0 : Int32)) d_isBeforeInPartsBothGive_110 rfl rfl ?_
                    exact r_retN X136 (by simp) d_isBeforeInPartsBothGive_111 (z := (0 : Int32)) (w := (0 : Int32)) rfl ⟨_, rfl, Or.inr ⟨rfl, by omega⟩⟩ (by decide) (by decide)
                  · refine r_aloadN X136 (pc' := 88) d_isBeforeInPartsBothGive_87 rfl rfl ?_
                    refine r_iload X136 (pc' := 90) d_isBeforeInPartsBothGive_88 rfl rfl ?_
                    refine r_iaload X136 (pc' := 91) (i := 2) (v := d1) d_isBeforeInPartsBothGive_90 f145 rfl (by decide) rfl rfl ?_
                    refine r_aloadN X136 (pc' := 92) d_isBeforeInPartsBothGive_91 rfl rfl ?_
                    refine r_iload X136 (pc' := 94) d_isBeforeInPartsBothGive_92 rfl rfl ?_
                    refine r_iaload X136 (pc' := 95) (i := 2) (v := d2) d_isBeforeInPartsBothGive_94 A138 rfl (by decide) rfl rfl ?_
                    refine r_icmp X136 (pc' := 102) (pc2 := 98) d_isBeforeInPartsBothGive_95 (by decide) (by decide) rfl (a := d1.toInt) (b := d2.toInt) rfl rfl (fun (cq155 : d2.toInt ≤ d1.toInt) => ?_) (fun (cq155 : ¬ (d2.toInt ≤ d1.toInt)) => ?_)
                    · refine r_iconst X136 (pc' := 103) (v := (0 : Int32)) d_isBeforeInPartsBothGive_102 rfl rfl ?_
                      exact r_retN X136 (by simp) d_isBeforeInPartsBothGive_103 (z := (0 : Int32)) (w := (0 : Int32)) rfl ⟨_, rfl, Or.inr ⟨rfl, by omega⟩⟩ (by decide) (by decide)
                    · refine r_iconst X136 (pc' := 99) (v := (1 : Int32)) d_isBeforeInPartsBothGive_98 rfl rfl ?_
                      refine r_goto X136 (pc' := 103) d_isBeforeInPartsBothGive_99 (by decide) (by decide) ?_
                      exact r_retN X136 (by simp) d_isBeforeInPartsBothGive_103 (z := (1 : Int32)) (w := (1 : Int32)) rfl ⟨_, rfl, Or.inl ⟨rfl, by omega⟩⟩ (by decide) (by decide)
                · refine r_iconst X136 (pc' := 75) (v := (0 : Int32)) d_isBeforeInPartsBothGive_74 rfl rfl ?_
                  exact r_retN X136 (by simp) d_isBeforeInPartsBothGive_75 (z := (0 : Int32)) (w := (0 : Int32)) rfl ⟨_, rfl, Or.inr ⟨rfl, by omega⟩⟩ (by decide) (by decide)
            · refine r_aloadN X136 (pc' := 88) d_isBeforeInPartsBothGive_87 rfl rfl ?_
              refine r_iload X136 (pc' := 90) d_isBeforeInPartsBothGive_88 rfl rfl ?_
              refine r_iaload X136 (pc' := 91) (i := 1) (v := m1) d_isBeforeInPartsBothGive_90 f145 rfl (by decide) rfl rfl ?_
              refine r_aloadN X136 (pc' := 92) d_isBeforeInPartsBothGive_91 rfl rfl ?_
              refine r_iload X136 (pc' := 94) d_isBeforeInPartsBothGive_92 rfl rfl ?_
              refine r_iaload X136 (pc' := 95) (i := 1) (v := m2) d_isBeforeInPartsBothGive_94 A138 rfl (by decide) rfl rfl ?_
              refine r_icmp X136 (pc' := 102) (pc2 := 98) d_isBeforeInPartsBothGive_95 (by decide) (by decide) rfl (a := m1.toInt) (b := m2.toInt) rfl rfl (fun (cq156 : m2.toInt ≤ m1.toInt) => ?_) (fun (cq156 : ¬ (m2.toInt ≤ m1.toInt)) => ?_)
              · refine r_iconst X136 (pc' := 103) (v := (0 : Int32)) d_isBeforeInPartsBothGive_102 rfl rfl ?_
                exact r_retN X136 (by simp) d_isBeforeInPartsBothGive_103 (z := (0 : Int32)) (w := (0 : Int32)) rfl ⟨_, rfl, Or.inr ⟨rfl, by omega⟩⟩ (by decide) (by decide)
              · refine r_iconst X136 (pc' := 99) (v := (1 : Int32)) d_isBeforeInPartsBothGive_98 rfl rfl ?_
                refine r_goto X136 (pc' := 103) d_isBeforeInPartsBothGive_99 (by decide) (by decide) ?_
                exact r_retN X136 (by simp) d_isBeforeInPartsBothGive_103 (z := (1 : Int32)) (w := (1 : Int32)) rfl ⟨_, rfl, Or.inl ⟨rfl, by omega⟩⟩ (by decide) (by decide)
          · refine r_iconst X136 (pc' := 75) (v := (0 : Int32)) d_isBeforeInPartsBothGive_74 rfl rfl ?_
            exact r_retN X136 (by simp) d_isBeforeInPartsBothGive_75 (z := (0 : Int32)) (w := (0 : Int32)) rfl ⟨_, rfl, Or.inr ⟨rfl, by omega⟩⟩ (by decide) (by decide)
      · refine r_aloadN X136 (pc' := 88) d_isBeforeInPartsBothGive_87 rfl rfl ?_
        refine r_iload X136 (pc' := 90) d_isBeforeInPartsBothGive_88 rfl rfl ?_
        refine r_iaload X136 (pc' := 91) (i := 0) (v := y1) d_isBeforeInPartsBothGive_90 f145 rfl (by decide) rfl rfl ?_
        refine r_aloadN X136 (pc' := 92) d_isBeforeInPartsBothGive_91 rfl rfl ?_
        refine r_iload X136 (pc' := 94) d_isBeforeInPartsBothGive_92 rfl rfl ?_
        refine r_iaload X136 (pc' := 95) (i := 0) (v := y2) d_isBeforeInPartsBothGive_94 A138 rfl (by decide) rfl rfl ?_
        refine r_icmp X136 (pc' := 102) (pc2 := 98) d_isBeforeInPartsBothGive_95 (by decide) (by decide) rfl (a := y1.toInt) (b := y2.toInt) rfl rfl (fun (cq157 : y2.toInt ≤ y1.toInt) => ?_) (fun (cq157 : ¬ (y2.toInt ≤ y1.toInt)) => ?_)
        · refine r_iconst X136 (pc' := 103) (v := (0 : Int32)) d_isBeforeInPartsBothGive_102 rfl rfl ?_
          exact r_retN X136 (by simp) d_isBeforeInPartsBothGive_103 (z := (0 : Int32)) (w := (0 : Int32)) rfl ⟨_, rfl, Or.inr ⟨rfl, by omega⟩⟩ (by decide) (by decide)
        · refine r_iconst X136 (pc' := 99) (v := (1 : Int32)) d_isBeforeInPartsBothGive_98 rfl rfl ?_
          refine r_goto X136 (pc' := 103) d_isBeforeInPartsBothGive_99 (by decide) (by decide) ?_
          exact r_retN X136 (by simp) d_isBeforeInPartsBothGive_103 (z := (1 : Int32)) (w := (1 : Int32)) rfl ⟨_, rfl, Or.inl ⟨rfl, by omega⟩⟩ (by decide) (by decide)
    · refine r_iconst X136 (pc' := 75) (v := (0 : Int32)) d_isBeforeInPartsBothGive_74 rfl rfl ?_
      exact r_retN X136 (by simp) d_isBeforeInPartsBothGive_75 (z := (0 : Int32)) (w := (0 : Int32)) rfl ⟨_, rfl, Or.inr ⟨rfl, by omega⟩⟩ (by decide) (by decide)
set_option maxRecDepth 65536 in
set_option maxHeartbeats 40000000 in
theorem con_e (l : Launch) (Z : State) (a0 : Array Value) (hw : ∀ d ∈ tables_1, d.before a0 Z = true) (q1 q2 q3 q4 q5 q6 : Int32) (h0 : Heap) (n0 : Nat) (Z0 : n0 ≤ h0.size)  : Con l Z (⟨"com/example/volkskern/volkskern/register/RegisterDateIsBeforeInPartsBothGivePinLaw", "expected", "(IIIIII)Z"⟩ : MethodName) method_3_code 6 (some .boolean) ({ frames := 0, cells := 0, slots := 0, locals := 0 } : Room) #[(.int q1), (.int q2), (.int q3), (.int q4), (.int q5), (.int q6)] h0 n0 0 0 (fun v h => (∃ z : Int32, v = some (.int z) ∧ (z.toInt = 1 ∧ (¬ q1.toInt = 0 ∧ ¬ q4.toInt = 0 ∧ (q1.toInt < q4.toInt ∨ (q1.toInt = q4.toInt ∧ ¬ q2.toInt = 0 ∧ ¬ q5.toInt = 0 ∧ (q2.toInt < q5.toInt ∨ (q2.toInt = q5.toInt ∧ ¬ q3.toInt = 0 ∧ ¬ q6.toInt = 0 ∧ q3.toInt < q6.toInt))))) ∨ z.toInt = 0 ∧ ¬ (¬ q1.toInt = 0 ∧ ¬ q4.toInt = 0 ∧ (q1.toInt < q4.toInt ∨ (q1.toInt = q4.toInt ∧ ¬ q2.toInt = 0 ∧ ¬ q5.toInt = 0 ∧ (q2.toInt < q5.toInt ∨ (q2.toInt = q5.toInt ∧ ¬ q3.toInt = 0 ∧ ¬ q6.toInt = 0 ∧ q3.toInt < q6.toInt))))))) ∧ h0 = h) := by
  refine Con.of_body (ls := #[.val (.int q1), .val (.int q2), .val (.int q3), .val (.int q4), .val (.int q5), .val (.int q6)]) pn_com_example_volkskern_volkskern_register_RegisterDateIsBeforeInPartsBothGivePinLaw (fun m => by first | (simp [entryFrame, mkF, argsToLocals, Value.category]; done) | rfl) Z0 (fun p e s m below meth c T (X : Here p l e ({ frames := 0, cells := 0, slots := 0, locals := 0 } : Room) s m #[(.int q1), (.int q2), (.int q3), (.int q4), (.int q5), (.int q6)] below meth c Z "com/example/volkskern/volkskern/register/RegisterDateIsBeforeInPartsBothGivePinLaw" "expected" method_3_code 6 (some .boolean) n0 T h0 0 0) => ?_)
  refine r_iloadN X (pc' := 1) d_expected_0 rfl rfl ?_
  refine r_if X (pc' := 8) (pc2 := 4) d_expected_1 (by decide) (by decide) rfl (a := q1.toInt) (b := 0) rfl rfl (fun (cq158 : q1.toInt = 0) => ?_) (fun (cq158 : ¬ (q1.toInt = 0)) => ?_)
  · refine r_iconst X (pc' := 9) (v := (0 : Int32)) d_expected_8 rfl rfl ?_
    exact r_retN X (by simp) d_expected_9 (z := (0 : Int32)) (w := (0 : Int32)) rfl ⟨⟨_, rfl, Or.inr ⟨rfl, by omega⟩⟩, rfl⟩ (by decide) (by decide)
  · refine r_iloadN X (pc' := 5) d_expected_4 rfl rfl ?_
    refine r_if X (pc' := 10) (pc2 := 8) d_expected_5 (by decide) (by decide) rfl (a := q4.toInt) (b := 0) rfl rfl (fun (cq159 : ¬ q4.toInt = 0) => ?_) (fun (cq159 : ¬ (¬ q4.toInt = 0)) => ?_)
    · refine r_iloadN X (pc' := 11) d_expected_10 rfl rfl ?_
      refine r_iloadN X (pc' := 12) d_expected_11 rfl rfl ?_
      refine r_icmp X (pc' := 17) (pc2 := 15) d_expected_12 (by decide) (by decide) rfl (a := q1.toInt) (b := q4.toInt) rfl rfl (fun (cq160 : q4.toInt ≤ q1.toInt) => ?_) (fun (cq160 : ¬ (q4.toInt ≤ q1.toInt)) => ?_)
      · refine r_iloadN X (pc' := 18) d_expected_17 rfl rfl ?_
        refine r_iloadN X (pc' := 19) d_expected_18 rfl rfl ?_
        refine r_icmp X (pc' := 24) (pc2 := 22) d_expected_19 (by decide) (by decide) rfl (a := q1.toInt) (b := q4.toInt) rfl rfl (fun (cq161 : q1.toInt ≤ q4.toInt) => ?_) (fun (cq161 : ¬ (q1.toInt ≤ q4.toInt)) => ?_)
        · refine r_iloadN X (pc' := 25) d_expected_24 rfl rfl ?_
          refine r_if X (pc' := 33) (pc2 := 28) d_expected_25 (by decide) (by decide) rfl (a := q2.toInt) (b := 0) rfl rfl (fun (cq162 : q2.toInt = 0) => ?_) (fun (cq162 : ¬ (q2.toInt = 0)) => ?_)
          · refine r_iconst X (pc' := 34) (v := (0 : Int32)) d_expected_33 rfl rfl ?_
            exact r_retN X (by simp) d_expected_34 (z := (0 : Int32)) (w := (0 : Int32)) rfl ⟨⟨_, rfl, Or.inr ⟨rfl, by omega⟩⟩, rfl⟩ (by decide) (by decide)
          · refine r_iload X (pc' := 30) d_expected_28 rfl rfl ?_
            refine r_if X (pc' := 35) (pc2 := 33) d_expected_30 (by decide) (by decide) rfl (a := q5.toInt) (b := 0) rfl rfl (fun (cq163 : ¬ q5.toInt = 0) => ?_) (fun (cq163 : ¬ (¬ q5.toInt = 0)) => ?_)
            · refine r_iloadN X (pc' := 36) d_expected_35 rfl rfl ?_
              refine r_iload X (pc' := 38) d_expected_36 rfl rfl ?_
              refine r_icmp X (pc' := 43) (pc2 := 41) d_expected_38 (by decide) (by decide) rfl (a := q2.toInt) (b := q5.toInt) rfl rfl (fun (cq164 : q5.toInt ≤ q2.toInt) => ?_) (fun (cq164 : ¬ (q5.toInt ≤ q2.toInt)) => ?_)
              · refine r_iloadN X (pc' := 44) d_expected_43 rfl rfl ?_
                refine r_iload X (pc' := 46) d_expected_44 rfl rfl ?_
                refine r_icmp X (pc' := 51) (pc2 := 49) d_expected_46 (by decide) (by decide) rfl (a := q2.toInt) (b := q5.toInt) rfl rfl (fun (cq165 : q2.toInt ≤ q5.toInt) => ?_) (fun (cq165 : ¬ (q2.toInt ≤ q5.toInt)) => ?_)
                · refine r_iloadN X (pc' := 52) d_expected_51 rfl rfl ?_
                  refine r_if X (pc' := 60) (pc2 := 55) d_expected_52 (by decide) (by decide) rfl (a := q3.toInt) (b := 0) rfl rfl (fun (cq166 : q3.toInt = 0) => ?_) (fun (cq166 : ¬ (q3.toInt = 0)) => ?_)
                  · refine r_iconst X (pc' := 61) (v := (0 : Int32)) d_expected_60 rfl rfl ?_
                    exact r_retN X (by simp) d_expected_61 (z := (0 : Int32)) (w := (0 : Int32)) rfl ⟨⟨_, rfl, Or.inr ⟨rfl, by omega⟩⟩, rfl⟩ (by decide) (by decide)
                  · refine r_iload X (pc' := 57) d_expected_55 rfl rfl ?_
                    refine r_if X (pc' := 62) (pc2 := 60) d_expected_57 (by decide) (by decide) rfl (a := q6.toInt) (b := 0) rfl rfl (fun (cq167 : ¬ q6.toInt = 0) => ?_) (fun (cq167 : ¬ (¬ q6.toInt = 0)) => ?_)
                    · refine r_iloadN X (pc' := 63) d_expected_62 rfl rfl ?_
                      refine r_iload X (pc' := 65) d_expected_63 rfl rfl ?_
                      refine r_icmp X (pc' := 72) (pc2 := 68) d_expected_65 (by decide) (by decide) rfl (a := q3.toInt) (b := q6.toInt) rfl rfl (fun (cq168 : q6.toInt ≤ q3.toInt) => ?_) (fun (cq168 : ¬ (q6.toInt ≤ q3.toInt)) => ?_)
                      · refine r_iconst X (pc' := 73) (v := (0 : Int32)) d_expected_72 rfl rfl ?_
                        exact r_retN X (by simp) d_expected_73 (z := (0 : Int32)) (w := (0 : Int32)) rfl ⟨⟨_, rfl, Or.inr ⟨rfl, by omega⟩⟩, rfl⟩ (by decide) (by decide)
                      · refine r_iconst X (pc' := 69) (v := (1 : Int32)) d_expected_68 rfl rfl ?_
                        refine r_goto X (pc' := 73) d_expected_69 (by decide) (by decide) ?_
                        exact r_retN X (by simp) d_expected_73 (z := (1 : Int32)) (w := (1 : Int32)) rfl ⟨⟨_, rfl, Or.inl ⟨rfl, by omega⟩⟩, rfl⟩ (by decide) (by decide)
                    · refine r_iconst X (pc' := 61) (v := (0 : Int32)) d_expected_60 rfl rfl ?_
                      exact r_retN X (by simp) d_expected_61 (z := (0 : Int32)) (w := (0 : Int32)) rfl ⟨⟨_, rfl, Or.inr ⟨rfl, by omega⟩⟩, rfl⟩ (by decide) (by decide)
                · refine r_iconst X (pc' := 50) (v := (0 : Int32)) d_expected_49 rfl rfl ?_
                  exact r_retN X (by simp) d_expected_50 (z := (0 : Int32)) (w := (0 : Int32)) rfl ⟨⟨_, rfl, Or.inr ⟨rfl, by omega⟩⟩, rfl⟩ (by decide) (by decide)
              · refine r_iconst X (pc' := 42) (v := (1 : Int32)) d_expected_41 rfl rfl ?_
                exact r_retN X (by simp) d_expected_42 (z := (1 : Int32)) (w := (1 : Int32)) rfl ⟨⟨_, rfl, Or.inl ⟨rfl, by omega⟩⟩, rfl⟩ (by decide) (by decide)
            · refine r_iconst X (pc' := 34) (v := (0 : Int32)) d_expected_33 rfl rfl ?_
              exact r_retN X (by simp) d_expected_34 (z := (0 : Int32)) (w := (0 : Int32)) rfl ⟨⟨_, rfl, Or.inr ⟨rfl, by omega⟩⟩, rfl⟩ (by decide) (by decide)
        · refine r_iconst X (pc' := 23) (v := (0 : Int32)) d_expected_22 rfl rfl ?_
          exact r_retN X (by simp) d_expected_23 (z := (0 : Int32)) (w := (0 : Int32)) rfl ⟨⟨_, rfl, Or.inr ⟨rfl, by omega⟩⟩, rfl⟩ (by decide) (by decide)
      · refine r_iconst X (pc' := 16) (v := (1 : Int32)) d_expected_15 rfl rfl ?_
        exact r_retN X (by simp) d_expected_16 (z := (1 : Int32)) (w := (1 : Int32)) rfl ⟨⟨_, rfl, Or.inl ⟨rfl, by omega⟩⟩, rfl⟩ (by decide) (by decide)
    · refine r_iconst X (pc' := 9) (v := (0 : Int32)) d_expected_8 rfl rfl ?_
      exact r_retN X (by simp) d_expected_9 (z := (0 : Int32)) (w := (0 : Int32)) rfl ⟨⟨_, rfl, Or.inr ⟨rfl, by omega⟩⟩, rfl⟩ (by decide) (by decide)
set_option maxRecDepth 65536 in
set_option maxHeartbeats 40000000 in
theorem con_law (l : Launch) (Z : State) (a0 : Array Value) (hw : ∀ d ∈ tables_1, d.before a0 Z = true) (p1 p2 p3 p4 p5 p6 : Int32) (h0 : Heap) (n0 : Nat) (Z0 : n0 ≤ h0.size)  : Con l Z x code maxLocals ret room_1 #[(.int p1), (.int p2), (.int p3), (.int p4), (.int p5), (.int p6)] h0 n0 16 128 (fun v _ => v = some (.int 1)) := by
  refine Con.of_body (ls := #[.val (.int p1), .val (.int p2), .val (.int p3), .val (.int p4), .val (.int p5), .val (.int p6), .unset, .unset, .unset]) pn_com_example_volkskern_volkskern_register_RegisterDateIsBeforeInPartsBothGivePinLaw (fun m => by first | (simp [entryFrame, mkF, argsToLocals, Value.category, maxLocals]; done) | rfl) Z0 (fun p e s m below meth c T (X : Here p l e room_1 s m #[(.int p1), (.int p2), (.int p3), (.int p4), (.int p5), (.int p6)] below meth c Z "com/example/volkskern/volkskern/register/RegisterDateIsBeforeInPartsBothGivePinLaw" "law" code 9 (some .boolean) n0 T h0 0 0) => ?_)
  refine r_new X (pc' := 3) at_0 (wd hw 0 rfl) (wd hw 1 rfl) (wd hw 2 rfl) (by decide) (by decide) rfl (fun T169 h170 b171 X172 ebb171 geb171 E173 A174 D175 => ?_)
  have f176 := D175 (O := "com/example/volkskern/volkskern/register/RegisterDate") (f := "day") (Or.inr (wd hw 15 rfl)) (ty := .int) (by decide)
  have f177 := D175 (O := "com/example/volkskern/volkskern/register/RegisterDate") (f := "month") (Or.inr (wd hw 17 rfl)) (ty := .int) (by decide)
  have f178 := D175 (O := "com/example/volkskern/volkskern/register/RegisterDate") (f := "year") (Or.inr (wd hw 19 rfl)) (ty := .int) (by decide)
  refine r_dup X172 (pc' := 4) at_3 rfl rfl ?_
  refine r_iloadN X172 (pc' := 5) at_4 rfl rfl ?_
  refine r_iloadN X172 (pc' := 6) at_5 rfl rfl ?_
  refine r_iloadN X172 (pc' := 7) at_6 rfl rfl ?_
  refine r_init X172 (pc' := 10) at_7 (con_init l Z a0 hw b171 (p1) (p2) (p3) (.int (0 : Int32)) (.int (0 : Int32)) (.int (0 : Int32)) h170 n0 X172.sz A174 f176 f177 f178 geb171) rfl (wd hw 3 rfl) (wd hw 4 rfl) (wd hw 2 rfl) (wd hw 5 rfl) (by decide) (argsL := [(.int p1), (.int p2), (.int p3)]) (rest := [(.ref b171)]) (W := 1) rfl rfl pd_init_RegisterDate rfl rfl (by decide) (by decide) (by decide) (by decide) rfl (fun v179 T180 h181 X182 QQ183 => ?_)
  obtain ⟨rfl, K184, f185, f186, f187⟩ := QQ183
  show Run p e below _ _ (mkF m 10 #[.val (.int p1), .val (.int p2), .val (.int p3), .val (.int p4), .val (.int p5), .val (.int p6), .unset, .unset, .unset] [(.ref b171)])
  have f188 := A174.keep K184
  refine r_astore X182 (pc' := 12) (ls' := #[.val (.int p1), .val (.int p2), .val (.int p3), .val (.int p4), .val (.int p5), .val (.int p6), .val (.ref b171), .unset, .unset]) at_10 rfl rfl ?_
  refine r_new X182 (pc' := 15) at_12 (wd hw 0 rfl) (wd hw 1 rfl) (wd hw 2 rfl) (by decide) (by decide) rfl (fun T189 h190 b191 X192 ebb191 geb191 E193 A194 D195 => ?_)
  have ne196 : b171 ≠ b191 := Nat.ne_of_lt (by rw [ebb191]; exact f188.lt)
  have f197 := f188.ext E193
  have f198 := f185.ext E193
  have f199 := f186.ext E193
  have f200 := f187.ext E193
  have f201 := D195 (O := "com/example/volkskern/volkskern/register/RegisterDate") (f := "day") (Or.inr (wd hw 15 rfl)) (ty := .int) (by decide)
  have f202 := D195 (O := "com/example/volkskern/volkskern/register/RegisterDate") (f := "month") (Or.inr (wd hw 17 rfl)) (ty := .int) (by decide)
  have f203 := D195 (O := "com/example/volkskern/volkskern/register/RegisterDate") (f := "year") (Or.inr (wd hw 19 rfl)) (ty := .int) (by decide)
  refine r_dup X192 (pc' := 16) at_15 rfl rfl ?_
  refine r_iloadN X192 (pc' := 17) at_16 rfl rfl ?_
  refine r_iload X192 (pc' := 19) at_17 rfl rfl ?_
  refine r_iload X192 (pc' := 21) at_19 rfl rfl ?_
  refine r_init X192 (pc' := 24) at_21 (con_init l Z a0 hw b191 (p4) (p5) (p6) (.int (0 : Int32)) (.int (0 : Int32)) (.int (0 : Int32)) h190 n0 X192.sz A194 f201 f202 f203 geb191) rfl (wd hw 3 rfl) (wd hw 4 rfl) (wd hw 2 rfl) (wd hw 5 rfl) (by decide) (argsL := [(.int p4), (.int p5), (.int p6)]) (rest := [(.ref b191)]) (W := 1) rfl rfl pd_init_RegisterDate rfl rfl (by decide) (by decide) (by decide) (by decide) rfl (fun v204 T205 h206 X207 QQ208 => ?_)
  obtain ⟨rfl, K209, f210, f211, f212⟩ := QQ208
  show Run p e below _ _ (mkF m 24 #[.val (.int p1), .val (.int p2), .val (.int p3), .val (.int p4), .val (.int p5), .val (.int p6), .val (.ref b171), .unset, .unset] [(.ref b191)])
  have f213 := f197.keep K209
  have f214 := f198.keep K209 (ninS ne196 nin0)
  have f215 := f199.keep K209 (ninS ne196 nin0)
  have f216 := f200.keep K209 (ninS ne196 nin0)
  have f217 := A194.keep K209
  refine r_astore X207 (pc' := 26) (ls' := #[.val (.int p1), .val (.int p2), .val (.int p3), .val (.int p4), .val (.int p5), .val (.int p6), .val (.ref b171), .val (.ref b191), .unset]) at_24 rfl rfl ?_
  refine r_aload X207 (pc' := 28) at_26 rfl rfl ?_
  refine r_aload X207 (pc' := 30) at_28 rfl rfl ?_
  refine r_callV X207 (pc' := 33) at_30 (con_f l Z a0 hw b171 b191 p3 p2 p1 p6 p5 p4 h206 n0 X207.sz f216 f215 f214 f212 f211 f210) f213 (wd hw 20 rfl) (wd hw 21 rfl) (wd hw 23 rfl) (wd hw 22 rfl) (wd hw 2 rfl) (wd hw 24 rfl) (by decide) (argsL := [(.ref b191)]) (rest := []) (W := 0) rfl rfl pd_isBeforeInPartsBothGive rfl rfl (by decide) (by decide) (by decide) (by decide) rfl (fun v218 T219 h220 X221 QQ222 => ?_)
  obtain ⟨z1, rfl, hz1⟩ := QQ222
  show Run p e below _ _ (mkF m 33 #[.val (.int p1), .val (.int p2), .val (.int p3), .val (.int p4), .val (.int p5), .val (.int p6), .val (.ref b171), .val (.ref b191), .unset] [(.int z1)])
  refine r_istore X221 (pc' := 35) (ls' := #[.val (.int p1), .val (.int p2), .val (.int p3), .val (.int p4), .val (.int p5), .val (.int p6), .val (.ref b171), .val (.ref b191), .val (.int z1)]) at_33 rfl rfl ?_
  refine r_iload X221 (pc' := 37) at_35 rfl rfl ?_
  refine r_iloadN X221 (pc' := 38) at_37 rfl rfl ?_
  refine r_iloadN X221 (pc' := 39) at_38 rfl rfl ?_
  refine r_iloadN X221 (pc' := 40) at_39 rfl rfl ?_
  refine r_iload X221 (pc' := 42) at_40 rfl rfl ?_
  refine r_iload X221 (pc' := 44) at_42 rfl rfl ?_
  refine r_iloadN X221 (pc' := 45) at_44 rfl rfl ?_
  refine r_callS X221 (pc' := 48) at_45 (con_e l Z a0 hw p3 p2 p1 p6 p5 p4 h220 n0 X221.sz) (wd hw 26 rfl) (wd hw 27 rfl) (wd hw 28 rfl) (wd hw 29 rfl) (by decide) (argsL := [(.int p3), (.int p2), (.int p1), (.int p6), (.int p5), (.int p4)]) (rest := [(.int z1)]) (W := 1) rfl rfl pd_expected rfl rfl (by decide) (by decide) (by decide) (by decide) rfl (fun v223 T224 h225 X226 QQ227 => ?_)
  obtain ⟨⟨z2, rfl, hz2⟩, rfl⟩ := QQ227
  show Run p e below _ _ (mkF m 48 #[.val (.int p1), .val (.int p2), .val (.int p3), .val (.int p4), .val (.int p5), .val (.int p6), .val (.ref b171), .val (.ref b191), .val (.int z1)] [(.int z2), (.int z1)])
  refine r_icmpN X226 (pc2 := 51) at_48 (by decide) rfl (a := z1.toInt) (b := z2.toInt) rfl rfl (show ¬ (¬ z1.toInt = z2.toInt) from (by omega)) ?_
  refine r_iconst X226 (pc' := 52) (v := (1 : Int32)) at_51 rfl rfl ?_
  refine r_goto X226 (pc' := 56) at_52 (by decide) (by decide) ?_
  exact r_retN X226 (by simp) at_56 (z := (1 : Int32)) (w := (1 : Int32)) rfl rfl (by decide) (by decide)
set_option maxRecDepth 65536 in
set_option maxHeartbeats 40000000 in
theorem comes_1 {Post : Tables → Env → Array Value → State → Outcome → State → Prop} (hpost : ∀ tb e args s v u, (limb_1_1.after args s (.returned v) u = true ∧ limb_1_2.after args s (.returned v) u = true ∧ True) → FrameEnd s (.returned v) u (Jvm.fieldLocs frame_1_writes args s ++ Jvm.arrayLocs frame_1_arrays args s ++ Jvm.staticLocs frame_1_statics s) 16 128 → Post tb e args s (.returned v) u) :
    ArmFor flags0 classFile x code maxLocals ret World_1 tables_1 room_1 Calls_1 rest_1 Pre_1 Post := by
  intro l hfl _ _ p e ha hc hk s m args below hf hA hF happ hP
  obtain ⟨hcalls, hrest, hpre⟩ := hP
  obtain ⟨-, -, -, hnamed, -, -, -, hat⟩ := (Spec.applies_iff hf).mp happ
  obtain ⟨hg, hn⟩ := and_e (Cond.before_iff.mp (show (Jvm.Cond.and given_1 narrow_1).before args s = true from hpre))
  obtain ⟨gc, gr0⟩ := and_e hg
  obtain ⟨gv0, gr1⟩ := and_e gr0
  obtain ⟨gv1, gr2⟩ := and_e gr1
  obtain ⟨gv2, gr3⟩ := and_e gr2
  obtain ⟨gv3, gr4⟩ := and_e gr3
  obtain ⟨gv4, gr5⟩ := and_e gr4
  obtain ⟨w0, w1, w2, w3, w4, w5, rfl⟩ : ∃ w0 w1 w2 w3 w4 w5 : Value, args = #[w0, w1, w2, w3, w4, w5] := by
    have hs : args.size = 6 := by simpa [Cond.value, given_1] using gc
    obtain ⟨L⟩ := args
    match L, hs with
    | [w0, w1, w2, w3, w4, w5], _ => exact ⟨w0, w1, w2, w3, w4, w5, rfl⟩
  have hw := fun d (hd : d ∈ tables_1) => atoms_spec (ws := Jvm.Cond.code x code maxLocals ret :: tables_1) hat d (List.mem_cons_of_mem _ hd)
  obtain ⟨i0, ei0⟩ := is_v gv0
  obtain rfl : w0 = (.int i0) := Option.some.inj ei0
  obtain ⟨i1, ei1⟩ := is_v gv1
  obtain rfl : w1 = (.int i1) := Option.some.inj ei1
  obtain ⟨i2, ei2⟩ := is_v gv2
  obtain rfl : w2 = (.int i2) := Option.some.inj ei2
  obtain ⟨i3, ei3⟩ := is_v gv3
  obtain rfl : w3 = (.int i3) := Option.some.inj ei3
  obtain ⟨i4, ei4⟩ := is_v gv4
  obtain rfl : w4 = (.int i4) := Option.some.inj ei4
  obtain ⟨i5, ei5⟩ := is_v gr5
  obtain rfl : w5 = (.int i5) := Option.some.inj ei5
  obtain ⟨n, o, h1, h2, h3, _, L, rfl, ⟨rfl, -, N⟩, hq⟩ := con_law l s _ hw i0 i1 i2 i3 i4 i5 s.heap s.heap.size (Nat.le_refl _) tables_1 p e ha hc hk s m _ below hf ((Spec.applies_iff_loose hf).mp happ).1 ⟨rfl, State.Warmed39.refl s, rfl⟩ trivial
  refine ⟨n, _, h1, h2, h3, hpost _ _ _ _ _ _ ⟨Cond.after_iff.mpr rfl, Cond.after_iff.mpr (eq_i res_at (Term.int_eval (1)) rfl), trivial⟩ ⟨hq.1, hq.2.1, (hq.2.2.sift fun y hy => Or.inr (N y hy)).mono (by decide) (by decide)⟩⟩
theorem main_1_1 : Claimed_1_1 := comes_1 fun _ _ _ _ _ _ h hF => ⟨h.1, hF⟩
theorem main_1_2 : Claimed_1_2 := comes_1 fun _ _ _ _ _ _ h hF => ⟨h.2.1, hF⟩
end Jvm.Pilot.@@N@@
namespace Jvm.Pilot.@@N@@
open Jvm Jvm.ClassFile Sem Op Lib Jvm.Free Jvm.Stand Jvm.Pilot.@@N@@.Jvm.D
/-! MADE BY PROGRAM (witnessworld.py) out of the Statement's table words and the real class files: 11 classes; the members and pool entries that the words name. The judged class is class 1, her method 1. -/
namespace start1
open Jvm.ClassFile
def u (s : String) : CpInfo := .utf8 (stringToUtf16 s)
/-- a pool by its gaps: so many unusable entries, then the entry; so many at the end -/
def gap : Nat → List CpInfo → List CpInfo
  | 0, r => r
  | n + 1, r => .unusable :: gap n r
def poolList (es : List (Nat × CpInfo)) (last : Nat) : List CpInfo := es.foldr (fun e r => gap e.1 (e.2 :: r)) (gap last [])
def pool (es : List (Nat × CpInfo)) (last : Nat) : Array CpInfo := ⟨poolList es last⟩
def fileOf (pool : Array CpInfo) (this : Nat) (attrs : Array Attribute := #[]) (ms : Array MethodInfo := #[]) (fl : Nat := 33) (sup : Nat := 0) (ifs : Array Nat := #[]) (fds : Array FieldInfo := #[]) : ClassFile where
  minorVersion := 0
  majorVersion := 65
  constantPool := pool
  accessFlags := fl
  thisClass := this
  superClass := sup
  interfaces := ifs
  fields := fds
  methods := ms
  attributes := attrs
def plain (name : String) (sup : Option ClassId) : Class where
  name := name
  kind := .ordinary
  loader := none
  accessFlags := 33
  super := sup
  interfaces := #[]
  cf := none
  fields := #[]
  methods := #[]
  instanceTypes := #[]
  staticTypes := #[]
  resolved := #[]
  callSites := []
  init := .initialized
  statics := none
  mirror := none

def pool0 : Array CpInfo := pool [(5, u "<init>"), (0, u "()V"), (1, .class_ 10), (1, u "java/lang/Object")] 113

def k0c0 : Code := { maxStack := 0, maxLocals := 1, code := object_method_1_code, exceptionTable := #[], attributes := #[] }
def k0m0 : Method := { name := "<init>", desc := "()V", sig := { parameters := [], returnType := none }, accessFlags := 1, code := some k0c0 }
/-- java/lang/Object -/
def k0 : Class := { plain "java/lang/Object" none with
  accessFlags := 33
  interfaces := #[]
  cf := some (fileOf pool0 8 #[] #[{ accessFlags := 1, nameIndex := 5, descriptorIndex := 6, attributes := #[] }] 33 0 #[] #[])
  fields := #[]
  methods := #[k0m0]
  instanceTypes := #[]
  staticTypes := #[]
  resolved := Array.replicate 124 none
  statics := none }

def pool1 : Array CpInfo := pool [(2, .class_ 4), (1, u "java/lang/Object"), (0, u "<init>"), (0, u "()V"), (0, .class_ 8), (0, u "com/example/volkskern/volkskern/register/RegisterDate"), (0, .methodref 7 10), (0, .nameAndType 5 11), (0, u "(III)V"), (0, .methodref 7 13), (0, .nameAndType 14 15), (0, u "isBeforeInPartsBothGive"), (0, u "(Lcom/example/volkskern/volkskern/register/RegisterDate;)Z"), (0, .methodref 17 18), (0, .class_ 19), (0, .nameAndType 20 21), (0, u "com/example/volkskern/volkskern/register/RegisterDateIsBeforeInPartsBothGivePinLaw"), (0, u "expected"), (0, u "(IIIIII)Z"), (2, u "law")] 3

def k1m0 : Method := { name := "<init>", desc := "()V", sig := { parameters := [], returnType := none }, accessFlags := 1, code := none }
def k1c1 : Code := { maxStack := 7, maxLocals := 9, code := code, exceptionTable := #[], attributes := #[] }
def k1m1 : Method := { name := "law", desc := "(IIIIII)Z", sig := { parameters := [.int, .int, .int, .int, .int, .int], returnType := some .boolean }, accessFlags := 9, code := some k1c1 }
def k1c2 : Code := { maxStack := 2, maxLocals := 6, code := method_3_code, exceptionTable := #[], attributes := #[] }
def k1m2 : Method := { name := "expected", desc := "(IIIIII)Z", sig := { parameters := [.int, .int, .int, .int, .int, .int], returnType := some .boolean }, accessFlags := 10, code := some k1c2 }
/-- com/example/volkskern/volkskern/register/RegisterDateIsBeforeInPartsBothGivePinLaw -/
def k1 : Class := { plain "com/example/volkskern/volkskern/register/RegisterDateIsBeforeInPartsBothGivePinLaw" (some 0) with
  accessFlags := 49
  interfaces := #[]
  cf := some (fileOf pool1 17 #[] #[{ accessFlags := 1, nameIndex := 5, descriptorIndex := 6, attributes := #[] }, { accessFlags := 9, nameIndex := 24, descriptorIndex := 21, attributes := #[] }, { accessFlags := 10, nameIndex := 20, descriptorIndex := 21, attributes := #[] }] 49 2 #[] #[])
  fields := #[]
  methods := #[k1m0, k1m1, k1m2]
  instanceTypes := #[]
  staticTypes := #[]
  resolved := Array.replicate 28 none
  statics := none }

def pool2 : Array CpInfo := pool [(1, .methodref 2 3), (0, .class_ 4), (0, .nameAndType 5 6), (0, u "java/lang/Object"), (0, u "<init>"), (0, u "()V"), (0, .class_ 8), (0, u "java/lang/Record")] 13

def k2c0 : Code := { maxStack := 1, maxLocals := 1, code := jdk_30_method_1_code, exceptionTable := #[], attributes := #[] }
def k2m0 : Method := { name := "<init>", desc := "()V", sig := { parameters := [], returnType := none }, accessFlags := 4, code := some k2c0 }
/-- java/lang/Record -/
def k2 : Class := { plain "java/lang/Record" (some 0) with
  accessFlags := 1057
  interfaces := #[]
  cf := some (fileOf pool2 7 #[] #[{ accessFlags := 4, nameIndex := 5, descriptorIndex := 6, attributes := #[] }] 1057 2 #[] #[])
  fields := #[]
  methods := #[k2m0]
  instanceTypes := #[]
  staticTypes := #[]
  resolved := Array.replicate 22 none
  statics := none }

def pool3 : Array CpInfo := pool [(1, .class_ 2), (0, u "java/lang/Comparable"), (0, .class_ 4), (0, u "java/lang/Object")] 7

/-- java/lang/Comparable -/
def k3 : Class := { plain "java/lang/Comparable" (some 0) with
  accessFlags := 1537
  interfaces := #[]
  cf := some (fileOf pool3 1 #[] #[] 1537 3 #[] #[])
  fields := #[]
  methods := #[]
  instanceTypes := #[]
  staticTypes := #[]
  resolved := Array.replicate 12 none
  statics := none }

def pool4 : Array CpInfo := pool [(1, .methodref 2 3), (0, .class_ 4), (0, .nameAndType 5 6), (0, u "java/lang/Record"), (0, u "<init>"), (0, u "()V"), (0, .fieldref 8 9), (0, .class_ 10), (0, .nameAndType 11 12), (0, u "com/example/volkskern/volkskern/register/RegisterDate"), (0, u "day"), (0, u "I"), (0, .fieldref 8 14), (0, .nameAndType 15 12), (0, u "month"), (0, .fieldref 8 17), (0, .nameAndType 18 12), (0, u "year"), (14, u "(III)V"), (2, u "CHRONOLOGICAL"), (0, u "Ljava/util/Comparator;"), (104, .class_ 143), (0, u "java/lang/Comparable"), (8, u "isBeforeInPartsBothGive"), (0, u "(Lcom/example/volkskern/volkskern/register/RegisterDate;)Z")] 49

def k4c0 : Code := { maxStack := 2, maxLocals := 4, code := prog_93_method_1_code, exceptionTable := #[], attributes := #[] }
def k4m0 : Method := { name := "<init>", desc := "(III)V", sig := { parameters := [.int, .int, .int], returnType := none }, accessFlags := 0, code := some k4c0 }
def k4c1 : Code := { maxStack := 4, maxLocals := 5, code := prog_93_method_7_code, exceptionTable := #[], attributes := #[] }
def k4m1 : Method := { name := "isBeforeInPartsBothGive", desc := "(Lcom/example/volkskern/volkskern/register/RegisterDate;)Z", sig := { parameters := [(.object "com/example/volkskern/volkskern/register/RegisterDate")], returnType := some .boolean }, accessFlags := 0, code := some k4c1 }
/-- com/example/volkskern/volkskern/register/RegisterDate -/
def k4 : Class := { plain "com/example/volkskern/volkskern/register/RegisterDate" (some 2) with
  accessFlags := 48
  interfaces := #[3]
  cf := some (fileOf pool4 8 #[] #[{ accessFlags := 0, nameIndex := 5, descriptorIndex := 33, attributes := #[] }, { accessFlags := 0, nameIndex := 152, descriptorIndex := 153, attributes := #[] }] 48 2 #[142] #[{ accessFlags := 18, nameIndex := 11, descriptorIndex := 12, attributes := #[] }, { accessFlags := 18, nameIndex := 15, descriptorIndex := 12, attributes := #[] }, { accessFlags := 18, nameIndex := 18, descriptorIndex := 12, attributes := #[] }, { accessFlags := 26, nameIndex := 36, descriptorIndex := 37, attributes := #[] }])
  fields := #[{ name := "day", type := .int, accessFlags := 18, slot := 0, constantValue := 0 }, { name := "month", type := .int, accessFlags := 18, slot := 1, constantValue := 0 }, { name := "year", type := .int, accessFlags := 18, slot := 2, constantValue := 0 }, { name := "CHRONOLOGICAL", type := (.object "java/util/Comparator"), accessFlags := 26, slot := 0, constantValue := 0 }]
  methods := #[k4m0, k4m1]
  instanceTypes := #[.int, .int, .int]
  staticTypes := #[(.object "java/util/Comparator")]
  resolved := Array.replicate 203 none
  statics := none }

def pool5 : Array CpInfo := pool [(1, u "java/lang/Cloneable"), (0, .class_ 1), (0, u "java/lang/Object"), (0, .class_ 3)] 3

/-- java/lang/Cloneable -/
def k5 : Class := { plain "java/lang/Cloneable" (some 0) with
  accessFlags := 1537
  interfaces := #[]
  cf := some (fileOf pool5 2 #[] #[] 1537 4 #[] #[])
  fields := #[]
  methods := #[]
  instanceTypes := #[]
  staticTypes := #[]
  resolved := Array.replicate 8 none
  statics := none }

def pool6 : Array CpInfo := pool [(1, u "java/io/Serializable"), (0, .class_ 1), (0, u "java/lang/Object"), (0, .class_ 3)] 3

/-- java/io/Serializable -/
def k6 : Class := { plain "java/io/Serializable" (some 0) with
  accessFlags := 1537
  interfaces := #[]
  cf := some (fileOf pool6 2 #[] #[] 1537 4 #[] #[])
  fields := #[]
  methods := #[]
  instanceTypes := #[]
  staticTypes := #[]
  resolved := Array.replicate 8 none
  statics := none }

/-- the primitive byte -/
def k7 : Class := { plain "byte" none with kind := .primitive 'B', accessFlags := 0x411 }
/-- [B -/
def k8 : Class := { plain "[B" (some 0) with kind := .array 7 .byte, interfaces := #[5, 6], accessFlags := 1041 }

/-- the primitive int -/
def k9 : Class := { plain "int" none with kind := .primitive 'I', accessFlags := 0x411 }
/-- [I -/
def k10 : Class := { plain "[I" (some 0) with kind := .array 9 .int, interfaces := #[5, 6], accessFlags := 1041 }

def heap : Heap := #[]
def classes : Array Class := #[k0, k1, k2, k3, k4, k5, k6, k7, k8, k9, k10]
def interned : List (Array UInt16 × Addr) := []
def slotsUsed : Nat := 0
def theMethod : MethodId := ⟨1, 1⟩
def args0 : Array Value := #[.int 5, .int 5, .int 5, .int 5, .int 5, .int 5]
def aboutOver (below : List Frame) : State where
  vm := { classes := classes, interned := interned.toArray }
  heap := heap
  slotsUsed := slotsUsed
  threads := #[{ frames := .invoking theMethod args0 :: below }]
def below0 : List Frame := [.native { method := ⟨0, 0⟩, args := #[] }]
def about1 : State := aboutOver below0
def p0 : Program := .bare "" "" ""
def e0 : Env := launch0.env 0 0 0
theorem w_frames : about1.frames = Frame.invoking theMethod args0 :: below0 := rfl
set_option maxRecDepth 65536 in
theorem w_args : argsFit about1.vm theMethod args0 = true := by decide +kernel
set_option maxRecDepth 65536 in
theorem w_heap : heapFits about1 = true := by decide +kernel
set_option maxRecDepth 65536 in
theorem w_runnable : about1.curStatus? = some .runnable := by decide +kernel
set_option maxRecDepth 65536 in
theorem w_alone : about1.alone = true := by decide +kernel
set_option maxRecDepth 65536 in
theorem w_named : about1.methodNamed? x = some theMethod := by decide +kernel
set_option maxRecDepth 65536 in
theorem w_hears : about1.hears theMethod below0 = true := by decide +kernel
set_option maxRecDepth 65536 in
theorem w_ripe : about1.ripe theMethod args0 below0 = true := by decide +kernel
theorem w_running : about1.status = .running := rfl
set_option maxRecDepth 65536 in
theorem w_room : about1.hasRoom e0.platform room_1 = true :=
  launch0.hasRoom_least _ room_1 (by decide +kernel) (by decide +kernel) (by decide +kernel) (by decide +kernel) (by decide +kernel) (by decide +kernel)
theorem allAtoms_all (ts : List Jvm.Cond) (a : Array Jvm.Value) (st : Jvm.State) : (allAtoms ts).before a st = ts.all (fun c => c.before a st) := by
  induction ts with
  | nil => rfl
  | cons c t ih =>
    show (Jvm.Cond.and c (allAtoms t)).before a st = _
    rw [Jvm.Cond.before_and, ih, List.all_cons]
def words1 : List Jvm.Cond := Jvm.Cond.code x code maxLocals ret :: tables_1
/-- a 'code' word, met by the world's own term for the bytes: nothing is compared byte by byte -/
theorem code_word {y : MethodName} {bytes : ByteArray} {mx : Nat} {rt : Option FieldType} {a : Array Value} {s : State} {m : MethodId} {meth : Method} {c : Code} (h1 : s.methodNamed? y = some m) (h2 : s.vm.method? m = some meth) (h3 : meth.code = some c) (h4 : c.code = bytes)
    (h5 : (c.maxLocals == mx && c.exceptionTable.isEmpty && decide (c.maxStack ≤ mostOperands) && decide (meth.sig.returnType = rt) && !meth.locks && decide (parseMethodDescriptor y.desc = some meth.sig)) = true) : (Jvm.Cond.code y bytes mx rt).before a s = true := by
  simp only [Bool.and_eq_true, beq_iff_eq, Bool.not_eq_true', decide_eq_true_eq] at h5
  obtain ⟨⟨⟨⟨⟨g1, g2⟩, g3⟩, g4⟩, g5⟩, g6⟩ := h5
  simp [Cond.before, Cond.holds, Cond.value, h1, h2, h3, h4, g1, g2, g3, g4, g5, g6]
def isCode : Jvm.Cond → Bool
  | .code _ _ _ _ => true
  | _ => false
theorem all_split {L : List Jvm.Cond} {P : Jvm.Cond → Bool} (h1 : L.all (fun c => isCode c || P c) = true) (h2 : ∀ c ∈ L.filter isCode, P c = true) : L.all P = true := by
  refine List.all_eq_true.mpr fun c hc => ?_
  have h := List.all_eq_true.mp h1 c hc
  rcases Bool.eq_false_or_eq_true (isCode c) with hi | hi
  · exact h2 c (List.mem_filter.mpr ⟨hc, hi⟩)
  · simpa [hi] using h
set_option maxRecDepth 65536 in
theorem w_c0 : (Jvm.Cond.code x code maxLocals ret).before args0 about1 = true := code_word (m := ⟨1, 1⟩) (meth := k1m1) (c := k1c1) (by decide +kernel) rfl rfl rfl (by decide +kernel)
set_option maxRecDepth 65536 in
theorem w_c1 : (Jvm.Cond.code ({ cls := "com/example/volkskern/volkskern/register/RegisterDate", name := "<init>", desc := "(III)V" } : Jvm.MethodName) prog_93_method_1_code (4 : Nat) (Option.none : Option Jvm.ClassFile.FieldType)).before args0 about1 = true := code_word (m := ⟨4, 0⟩) (meth := k4m0) (c := k4c0) (by decide +kernel) rfl rfl rfl (by decide +kernel)
set_option maxRecDepth 65536 in
theorem w_c2 : (Jvm.Cond.code ({ cls := "java/lang/Record", name := "<init>", desc := "()V" } : Jvm.MethodName) jdk_30_method_1_code (1 : Nat) (Option.none : Option Jvm.ClassFile.FieldType)).before args0 about1 = true := code_word (m := ⟨2, 0⟩) (meth := k2m0) (c := k2c0) (by decide +kernel) rfl rfl rfl (by decide +kernel)
set_option maxRecDepth 65536 in
theorem w_c3 : (Jvm.Cond.code ({ cls := "java/lang/Object", name := "<init>", desc := "()V" } : Jvm.MethodName) object_method_1_code (1 : Nat) (Option.none : Option Jvm.ClassFile.FieldType)).before args0 about1 = true := code_word (m := ⟨0, 0⟩) (meth := k0m0) (c := k0c0) (by decide +kernel) rfl rfl rfl (by decide +kernel)
set_option maxRecDepth 65536 in
theorem w_c4 : (Jvm.Cond.code ({ cls := "com/example/volkskern/volkskern/register/RegisterDate", name := "isBeforeInPartsBothGive", desc := "(Lcom/example/volkskern/volkskern/register/RegisterDate;)Z" } : Jvm.MethodName) prog_93_method_7_code (5 : Nat) (Option.some Jvm.ClassFile.FieldType.boolean)).before args0 about1 = true := code_word (m := ⟨4, 1⟩) (meth := k4m1) (c := k4c1) (by decide +kernel) rfl rfl rfl (by decide +kernel)
set_option maxRecDepth 65536 in
theorem w_c5 : (Jvm.Cond.code ({ cls := "com/example/volkskern/volkskern/register/RegisterDateIsBeforeInPartsBothGivePinLaw", name := "expected", desc := "(IIIIII)Z" } : Jvm.MethodName) method_3_code (6 : Nat) (Option.some Jvm.ClassFile.FieldType.boolean)).before args0 about1 = true := code_word (m := ⟨1, 2⟩) (meth := k1m2) (c := k1c2) (by decide +kernel) rfl rfl rfl (by decide +kernel)
def codes1 : List Jvm.Cond := [Jvm.Cond.code x code maxLocals ret, Jvm.Cond.code ({ cls := "com/example/volkskern/volkskern/register/RegisterDate", name := "<init>", desc := "(III)V" } : Jvm.MethodName) prog_93_method_1_code (4 : Nat) (Option.none : Option Jvm.ClassFile.FieldType), Jvm.Cond.code ({ cls := "java/lang/Record", name := "<init>", desc := "()V" } : Jvm.MethodName) jdk_30_method_1_code (1 : Nat) (Option.none : Option Jvm.ClassFile.FieldType), Jvm.Cond.code ({ cls := "java/lang/Object", name := "<init>", desc := "()V" } : Jvm.MethodName) object_method_1_code (1 : Nat) (Option.none : Option Jvm.ClassFile.FieldType), Jvm.Cond.code ({ cls := "com/example/volkskern/volkskern/register/RegisterDate", name := "isBeforeInPartsBothGive", desc := "(Lcom/example/volkskern/volkskern/register/RegisterDate;)Z" } : Jvm.MethodName) prog_93_method_7_code (5 : Nat) (Option.some Jvm.ClassFile.FieldType.boolean), Jvm.Cond.code ({ cls := "com/example/volkskern/volkskern/register/RegisterDateIsBeforeInPartsBothGivePinLaw", name := "expected", desc := "(IIIIII)Z" } : Jvm.MethodName) method_3_code (6 : Nat) (Option.some Jvm.ClassFile.FieldType.boolean)]
set_option maxRecDepth 65536 in
theorem codes_eq : words1.filter isCode = codes1 := rfl
theorem w_codes : ∀ c ∈ words1.filter isCode, c.before args0 about1 = true := by
  rw [codes_eq]
  intro c hc
  simp only [codes1, List.mem_cons, List.not_mem_nil, or_false] at hc
  rcases hc with rfl | rfl | rfl | rfl | rfl | rfl
  · exact w_c0
  · exact w_c1
  · exact w_c2
  · exact w_c3
  · exact w_c4
  · exact w_c5
set_option maxRecDepth 65536 in
theorem w_t1 : (words1.take 24).all (fun c => isCode c || c.before args0 about1) = true := by decide +kernel
set_option maxRecDepth 65536 in
theorem w_t2 : (words1.drop 24).all (fun c => isCode c || c.before args0 about1) = true := by decide +kernel
theorem w_tables : (allAtoms (Jvm.Cond.code x code maxLocals ret :: tables_1)).before args0 about1 = true := by
  rw [allAtoms_all]
  show words1.all (fun c => c.before args0 about1) = true
  refine all_split ?_ w_codes
  rw [← List.take_append_drop 24 words1, List.all_append, w_t1, w_t2]
  rfl
set_option maxRecDepth 65536 in
theorem w_case : (Jvm.Cond.and given_1 narrow_1).before args0 about1 = true := by decide +kernel
theorem w_applies : (headSpec (Jvm.Cond.code x code maxLocals ret :: tables_1) room_1).applies x e0.platform about1 = true :=
  (Spec.applies_iff w_frames).mpr ⟨w_running, w_runnable, w_alone, w_named, w_hears, w_ripe, w_room, w_tables⟩
theorem atStart : AtStart classFile x code maxLocals ret World_1 tables_1 room_1 Calls_1 rest_1 Pre_1 launch0 p0 e0 about1 theMethod args0 below0 :=
  ⟨lists_1, trivial, launch0.admits_env _ _ _, launch0.least_env, fairChoices_fair.cas, fairChoices_fair.clock, w_frames, w_args, w_heap, w_applies, trivial, trivial, w_case⟩
end start1
theorem witness_1 : WitnessClaimed_1 := ⟨start1.p0, start1.e0, start1.about1, start1.theMethod, start1.args0, start1.below0, start1.atStart⟩
end Jvm.Pilot.@@N@@

import JvmDerived
import JvmDerived.Pilot.@@N@@Statement
import JvmDerived.Pilot.@@N@@Code
set_option linter.unusedVariables false
set_option linter.unusedSimpArgs false
namespace Jvm.Pilot.@@N@@
namespace W
open Jvm Jvm.ClassFile Sem Op Lib Jvm.Free Jvm.Stand Jvm.LawKit Jvm.RoadKit Bundle
/-- from U the run comes to an end that says G -/
def Go (tb : Tables) (e : Env) (below : List Frame) (G : Outcome → State → Prop) (U : State) : Prop := ∃ s₂ o, Steps tb e below U s₂ ∧ s₂.status = .running ∧ Ended s₂ below o ∧ G o s₂
theorem Go.via {tb : Tables} {e : Env} {below : List Frame} {G : Outcome → State → Prop} {U V : State} (f : ∀ t, Steps tb e below V t → Steps tb e below U t) (k : Go tb e below G V) : Go tb e below G U := by
  obtain ⟨s₂, o, h1, h⟩ := k; exact ⟨s₂, o, f _ h1, h⟩
theorem Go.tr {tb : Tables} {e : Env} {below : List Frame} {G : Outcome → State → Prop} {U V : State} (f : Steps tb e below U V) (k : Go tb e below G V) : Go tb e below G U := by
  obtain ⟨s₂, o, h1, h⟩ := k; exact ⟨s₂, o, f.trans h1, h⟩
/-- what a comparison of two ints says -/
abbrev cv (cd : ClassFile.Cond) (a b : Int32) : Prop := match cd with
  | .eq => a = b
  | .ne => ¬ a = b
  | .lt => a < b
  | .ge => ¬ a < b
  | .gt => b < a
  | .le => ¬ b < a
theorem cvY {cd : ClassFile.Cond} {a b : Int32} (q : cv cd a b) : if_icmp.holds cd a b = true := by
  cases cd
  · exact (teq q).1
  · exact (feq q).2
  · exact (tlt q).1
  · exact (flt q).2.1
  · exact (tlt q).2.2.1
  · exact (flt q).2.2.2
theorem cvN {cd : ClassFile.Cond} {a b : Int32} (q : ¬ cv cd a b) : if_icmp.holds cd a b = false := by
  cases cd
  · exact (feq q).1
  · exact (teq (Decidable.byContradiction q)).2
  · exact (flt q).1
  · exact (tlt (Decidable.byContradiction q)).2.1
  · exact (flt q).2.2.1
  · exact (tlt (Decidable.byContradiction q)).2.2.2
theorem cvD (cd : ClassFile.Cond) (a b : Int32) : cv cd a b ∨ ¬ cv cd a b := Classical.em _
abbrev Q0 (p : Program) (T : State) (m : MethodId) (c : Code) (below : List Frame) (code : ByteArray) : Prop := At T m c below ∧ p.tables.exec = Jvm.exec ∧ c.code = code
theorem catR {v : Value} (h : v.isRef = true) : v.category = 1 := by cases v <;> first | rfl | cases h
theorem stR {ls ls2 : Array Slot} {k : Nat} {v : Value} {o : Slot} (hv : v.isRef = true) (hold : ls[k]? = some o) (ho : One o) (h2 : ls.setIfInBounds k (.val v) = ls2) : storeLocals ls k v = some ls2 := by
  rw [← h2]; exact Jvm.Free.XS.store1 hold ho (catR hv)
section Plain
variable {p : Program} {e : Env} {below : List Frame} {G : Outcome → State → Prop} {T : State} {m : MethodId} {c : Code} {code : ByteArray} {pc pc1 pc2 : Nat} {ls ls2 : Array Slot} {st : List Value}

theorem g_iloadN (q : Q0 p T m c below code) {k : Fin 4} {v : Int32} (hd : decode code pc = .ok (.iload_n k, 1)) (hl : ls[k.val]? = some (.val (.int v))) (hp : pc + 1 = pc1) (K : Go p.tables e below G (T.setTop (mkF m pc1 ls (.int v :: st)))) : Go p.tables e below G (T.setTop (mkF m pc ls st)) := by
  subst hp; exact Go.via (fun _ k => Jvm.Free.XS.iloadN q.1 q.2.1 rfl (hb q.2.2 hd) hl k) K
theorem g_aloadN (q : Q0 p T m c below code) {k : Fin 4} {v : Value} (hd : decode code pc = .ok (.aload_n k, 1)) (hl : ls[k.val]? = some (.val v)) (hv : v.isRef = true) (hp : pc + 1 = pc1) (K : Go p.tables e below G (T.setTop (mkF m pc1 ls (v :: st)))) : Go p.tables e below G (T.setTop (mkF m pc ls st)) := by
  subst hp; exact Go.via (fun _ k => Jvm.Free.XS.aloadN q.1 q.2.1 rfl (hb q.2.2 hd) hl hv k) K
theorem g_istoreN (q : Q0 p T m c below code) {k : Fin 4} {v : Int32} (hd : decode code pc = .ok (.istore_n k, 1)) (hl : storeLocals ls k.val (.int v) = some ls2) (hp : pc + 1 = pc1) (K : Go p.tables e below G (T.setTop (mkF m pc1 ls2 st))) : Go p.tables e below G (T.setTop (mkF m pc ls (.int v :: st))) := by
  subst hp; exact Go.via (fun _ k => Jvm.Free.XS.istoreN q.1 q.2.1 rfl (hb q.2.2 hd) rfl hl k) K
theorem g_astoreN (q : Q0 p T m c below code) {k : Fin 4} {v : Value} (hd : decode code pc = .ok (.astore_n k, 1)) (hv : v.isRef = true) (hl : storeLocals ls k.val v = some ls2) (hp : pc + 1 = pc1) (K : Go p.tables e below G (T.setTop (mkF m pc1 ls2 st))) : Go p.tables e below G (T.setTop (mkF m pc ls (v :: st))) := by
  subst hp; exact Go.via (fun _ k => Jvm.Free.XS.astoreN q.1 q.2.1 rfl (hb q.2.2 hd) rfl hv hl k) K
theorem g_lloadN (q : Q0 p T m c below code) {k : Fin 4} {v : Int64} (hd : decode code pc = .ok (.lload_n k, 1)) (hl : ls[k.val]? = some (.val (.long v))) (hp : pc + 1 = pc1) (K : Go p.tables e below G (T.setTop (mkF m pc1 ls (.long v :: st)))) : Go p.tables e below G (T.setTop (mkF m pc ls st)) := by
  subst hp; exact Go.via (fun _ k => Jvm.Free.XT.lloadN q.1 q.2.1 rfl (hb q.2.2 hd) hl k) K
theorem g_lstoreN (q : Q0 p T m c below code) {k : Fin 4} {v : Int64} (hd : decode code pc = .ok (.lstore_n k, 1)) (hl : storeLocals ls k.val (.long v) = some ls2) (hp : pc + 1 = pc1) (K : Go p.tables e below G (T.setTop (mkF m pc1 ls2 st))) : Go p.tables e below G (T.setTop (mkF m pc ls (.long v :: st))) := by
  subst hp; exact Go.via (fun _ k => Jvm.Free.XT.lstoreN q.1 q.2.1 rfl (hb q.2.2 hd) rfl hl k) K
theorem g_iload (q : Q0 p T m c below code) {k : Nat} {v : Int32} (hd : decode code pc = .ok (.iload k, 2)) (hl : ls[k]? = some (.val (.int v))) (hp : pc + 2 = pc1) (K : Go p.tables e below G (T.setTop (mkF m pc1 ls (.int v :: st)))) : Go p.tables e below G (T.setTop (mkF m pc ls st)) := by
  subst hp; exact Go.via (fun _ k => Jvm.Free.XS.iload q.1 q.2.1 rfl (hb q.2.2 hd) hl k) K
theorem g_aload (q : Q0 p T m c below code) {k : Nat} {v : Value} (hd : decode code pc = .ok (.aload k, 2)) (hl : ls[k]? = some (.val v)) (hv : v.isRef = true) (hp : pc + 2 = pc1) (K : Go p.tables e below G (T.setTop (mkF m pc1 ls (v :: st)))) : Go p.tables e below G (T.setTop (mkF m pc ls st)) := by
  subst hp; exact Go.via (fun _ k => Jvm.Free.XS.aload q.1 q.2.1 rfl (hb q.2.2 hd) hl hv k) K
theorem g_istore (q : Q0 p T m c below code) {k : Nat} {v : Int32} (hd : decode code pc = .ok (.istore k, 2)) (hl : storeLocals ls k (.int v) = some ls2) (hp : pc + 2 = pc1) (K : Go p.tables e below G (T.setTop (mkF m pc1 ls2 st))) : Go p.tables e below G (T.setTop (mkF m pc ls (.int v :: st))) := by
  subst hp; exact Go.via (fun _ k => Jvm.Free.XS.istore q.1 q.2.1 rfl (hb q.2.2 hd) rfl hl k) K
theorem g_astore (q : Q0 p T m c below code) {k : Nat} {v : Value} (hd : decode code pc = .ok (.astore k, 2)) (hv : v.isRef = true) (hl : storeLocals ls k v = some ls2) (hp : pc + 2 = pc1) (K : Go p.tables e below G (T.setTop (mkF m pc1 ls2 st))) : Go p.tables e below G (T.setTop (mkF m pc ls (v :: st))) := by
  subst hp; exact Go.via (fun _ k => Jvm.Free.XS.astore q.1 q.2.1 rfl (hb q.2.2 hd) rfl hv hl k) K
theorem g_lload (q : Q0 p T m c below code) {k : Nat} {v : Int64} (hd : decode code pc = .ok (.lload k, 2)) (hl : ls[k]? = some (.val (.long v))) (hp : pc + 2 = pc1) (K : Go p.tables e below G (T.setTop (mkF m pc1 ls (.long v :: st)))) : Go p.tables e below G (T.setTop (mkF m pc ls st)) := by
  subst hp; exact Go.via (fun _ k => Jvm.Free.XT.lload q.1 q.2.1 rfl (hb q.2.2 hd) hl k) K
theorem g_lstore (q : Q0 p T m c below code) {k : Nat} {v : Int64} (hd : decode code pc = .ok (.lstore k, 2)) (hl : storeLocals ls k (.long v) = some ls2) (hp : pc + 2 = pc1) (K : Go p.tables e below G (T.setTop (mkF m pc1 ls2 st))) : Go p.tables e below G (T.setTop (mkF m pc ls (.long v :: st))) := by
  subst hp; exact Go.via (fun _ k => Jvm.Free.XT.lstore q.1 q.2.1 rfl (hb q.2.2 hd) rfl hl k) K
theorem g_iconst (q : Q0 p T m c below code) {i : Int} {v : Int32} (hd : decode code pc = .ok (.iconst i, 1)) (hv : Int32.ofInt i = v) (hp : pc + 1 = pc1) (K : Go p.tables e below G (T.setTop (mkF m pc1 ls (.int v :: st)))) : Go p.tables e below G (T.setTop (mkF m pc ls st)) := by
  subst hp; exact Go.via (fun _ k => Jvm.Free.XS.iconst q.1 q.2.1 rfl (hb q.2.2 hd) (hv ▸ k)) K
theorem g_bipush (q : Q0 p T m c below code) {i : Int} {v : Int32} (hd : decode code pc = .ok (.bipush i, 2)) (hv : (Int8.ofInt i).toInt32 = v) (hp : pc + 2 = pc1) (K : Go p.tables e below G (T.setTop (mkF m pc1 ls (.int v :: st)))) : Go p.tables e below G (T.setTop (mkF m pc ls st)) := by
  subst hp; exact Go.via (fun _ k => Jvm.Free.XS.bipush q.1 q.2.1 rfl (hb q.2.2 hd) (hv ▸ k)) K
theorem g_sipush (q : Q0 p T m c below code) {i : Int} {v : Int32} (hd : decode code pc = .ok (.sipush i, 3)) (hv : (Int16.ofInt i).toInt32 = v) (hp : pc + 3 = pc1) (K : Go p.tables e below G (T.setTop (mkF m pc1 ls (.int v :: st)))) : Go p.tables e below G (T.setTop (mkF m pc ls st)) := by
  subst hp; exact Go.via (fun _ k => Jvm.Free.XS.sipush q.1 q.2.1 rfl (hb q.2.2 hd) (hv ▸ k)) K
theorem g_null (q : Q0 p T m c below code)  (hd : decode code pc = .ok (.aconst_null, 1))  (hp : pc + 1 = pc1) (K : Go p.tables e below G (T.setTop (mkF m pc1 ls (.null :: st)))) : Go p.tables e below G (T.setTop (mkF m pc ls st)) := by
  subst hp; exact Go.via (fun _ k => Jvm.Free.XS.aconstNull q.1 q.2.1 rfl (hb q.2.2 hd) k) K
theorem g_iadd (q : Q0 p T m c below code) {x y : Int32} (hd : decode code pc = .ok (.iadd, 1))  (hp : pc + 1 = pc1) (K : Go p.tables e below G (T.setTop (mkF m pc1 ls (.int (x + y) :: st)))) : Go p.tables e below G (T.setTop (mkF m pc ls (.int y :: .int x :: st))) := by
  subst hp; exact Go.via (fun _ k => Jvm.Free.XS.iadd q.1 q.2.1 rfl (hb q.2.2 hd) rfl k) K
theorem g_isub (q : Q0 p T m c below code) {x y : Int32} (hd : decode code pc = .ok (.isub, 1))  (hp : pc + 1 = pc1) (K : Go p.tables e below G (T.setTop (mkF m pc1 ls (.int (x - y) :: st)))) : Go p.tables e below G (T.setTop (mkF m pc ls (.int y :: .int x :: st))) := by
  subst hp; exact Go.via (fun _ k => Jvm.Free.XS.isub q.1 q.2.1 rfl (hb q.2.2 hd) rfl k) K
theorem g_iand (q : Q0 p T m c below code) {x y : Int32} (hd : decode code pc = .ok (.iand, 1))  (hp : pc + 1 = pc1) (K : Go p.tables e below G (T.setTop (mkF m pc1 ls (.int (x &&& y) :: st)))) : Go p.tables e below G (T.setTop (mkF m pc ls (.int y :: .int x :: st))) := by
  subst hp; exact Go.via (fun _ k => Jvm.Free.XS.iand q.1 q.2.1 rfl (hb q.2.2 hd) rfl k) K
theorem g_imul (q : Q0 p T m c below code) {x y : Int32} (hd : decode code pc = .ok (.imul, 1))  (hp : pc + 1 = pc1) (K : Go p.tables e below G (T.setTop (mkF m pc1 ls (.int (x * y) :: st)))) : Go p.tables e below G (T.setTop (mkF m pc ls (.int y :: .int x :: st))) := by
  subst hp; exact Go.via (fun _ k => Jvm.Free.XS.imul q.1 q.2.1 rfl (hb q.2.2 hd) rfl k) K
theorem g_irem (q : Q0 p T m c below code) {x y : Int32} (hd : decode code pc = .ok (.irem, 1)) (hy : y ≠ 0) (hp : pc + 1 = pc1) (K : Go p.tables e below G (T.setTop (mkF m pc1 ls (.int (x - (x / y) * y) :: st)))) : Go p.tables e below G (T.setTop (mkF m pc ls (.int y :: .int x :: st))) := by
  subst hp; exact Go.via (fun _ k => Jvm.Free.XS.irem q.1 q.2.1 rfl (hb q.2.2 hd) rfl hy k) K
theorem g_idiv (q : Q0 p T m c below code) {x y : Int32} (hd : decode code pc = .ok (.idiv, 1)) (hy : y ≠ 0) (hp : pc + 1 = pc1) (K : Go p.tables e below G (T.setTop (mkF m pc1 ls (.int (x / y) :: st)))) : Go p.tables e below G (T.setTop (mkF m pc ls (.int y :: .int x :: st))) := by
  subst hp; exact Go.via (fun _ k => Jvm.Free.XS.idiv q.1 q.2.1 rfl (hb q.2.2 hd) rfl hy k) K
theorem g_ineg (q : Q0 p T m c below code) {x : Int32} (hd : decode code pc = .ok (.ineg, 1))  (hp : pc + 1 = pc1) (K : Go p.tables e below G (T.setTop (mkF m pc1 ls (.int (-x) :: st)))) : Go p.tables e below G (T.setTop (mkF m pc ls (.int x :: st))) := by
  subst hp; exact Go.via (fun _ k => Jvm.Free.XS.ineg q.1 q.2.1 rfl (hb q.2.2 hd) rfl k) K
theorem g_ior (q : Q0 p T m c below code) {x y : Int32} (hd : decode code pc = .ok (.ior, 1))  (hp : pc + 1 = pc1) (K : Go p.tables e below G (T.setTop (mkF m pc1 ls (.int (x ||| y) :: st)))) : Go p.tables e below G (T.setTop (mkF m pc ls (.int y :: .int x :: st))) := by
  subst hp; exact Go.via (fun _ k => Jvm.Free.XT.ior q.1 q.2.1 rfl (hb q.2.2 hd) rfl k) K
theorem g_ixor (q : Q0 p T m c below code) {x y : Int32} (hd : decode code pc = .ok (.ixor, 1))  (hp : pc + 1 = pc1) (K : Go p.tables e below G (T.setTop (mkF m pc1 ls (.int (x ^^^ y) :: st)))) : Go p.tables e below G (T.setTop (mkF m pc ls (.int y :: .int x :: st))) := by
  subst hp; exact Go.via (fun _ k => Jvm.Free.XT.ixor q.1 q.2.1 rfl (hb q.2.2 hd) rfl k) K
theorem g_ishl (q : Q0 p T m c below code) {x y : Int32} (hd : decode code pc = .ok (.ishl, 1))  (hp : pc + 1 = pc1) (K : Go p.tables e below G (T.setTop (mkF m pc1 ls (.int (x <<< (y &&& 31)) :: st)))) : Go p.tables e below G (T.setTop (mkF m pc ls (.int y :: .int x :: st))) := by
  subst hp; exact Go.via (fun _ k => Jvm.Free.XT.ishl q.1 q.2.1 rfl (hb q.2.2 hd) rfl k) K
theorem g_ishr (q : Q0 p T m c below code) {x y : Int32} (hd : decode code pc = .ok (.ishr, 1))  (hp : pc + 1 = pc1) (K : Go p.tables e below G (T.setTop (mkF m pc1 ls (.int (x >>> (y &&& 31)) :: st)))) : Go p.tables e below G (T.setTop (mkF m pc ls (.int y :: .int x :: st))) := by
  subst hp; exact Go.via (fun _ k => Jvm.Free.XT.ishr q.1 q.2.1 rfl (hb q.2.2 hd) rfl k) K
theorem g_iushr (q : Q0 p T m c below code) {x y : Int32} (hd : decode code pc = .ok (.iushr, 1))  (hp : pc + 1 = pc1) (K : Go p.tables e below G (T.setTop (mkF m pc1 ls (.int (Jvm.Free.XT.ushr x y) :: st)))) : Go p.tables e below G (T.setTop (mkF m pc ls (.int y :: .int x :: st))) := by
  subst hp; exact Go.via (fun _ k => Jvm.Free.XT.iushr q.1 q.2.1 rfl (hb q.2.2 hd) rfl k) K
theorem g_i2b (q : Q0 p T m c below code) {x : Int32} (hd : decode code pc = .ok (.i2b, 1))  (hp : pc + 1 = pc1) (K : Go p.tables e below G (T.setTop (mkF m pc1 ls (.int (x.toInt8.toInt32) :: st)))) : Go p.tables e below G (T.setTop (mkF m pc ls (.int x :: st))) := by
  subst hp; exact Go.via (fun _ k => Jvm.Free.XT.i2b q.1 q.2.1 rfl (hb q.2.2 hd) rfl k) K
theorem g_i2c (q : Q0 p T m c below code) {x : Int32} (hd : decode code pc = .ok (.i2c, 1))  (hp : pc + 1 = pc1) (K : Go p.tables e below G (T.setTop (mkF m pc1 ls (.int (x.toUInt32.toUInt16.toUInt32.toInt32) :: st)))) : Go p.tables e below G (T.setTop (mkF m pc ls (.int x :: st))) := by
  subst hp; exact Go.via (fun _ k => Jvm.Free.XT.i2c q.1 q.2.1 rfl (hb q.2.2 hd) rfl k) K
theorem g_i2s (q : Q0 p T m c below code) {x : Int32} (hd : decode code pc = .ok (.i2s, 1))  (hp : pc + 1 = pc1) (K : Go p.tables e below G (T.setTop (mkF m pc1 ls (.int (x.toInt16.toInt32) :: st)))) : Go p.tables e below G (T.setTop (mkF m pc ls (.int x :: st))) := by
  subst hp; exact Go.via (fun _ k => Jvm.Free.XT.i2s q.1 q.2.1 rfl (hb q.2.2 hd) rfl k) K
theorem g_i2l (q : Q0 p T m c below code) {x : Int32} (hd : decode code pc = .ok (.i2l, 1))  (hp : pc + 1 = pc1) (K : Go p.tables e below G (T.setTop (mkF m pc1 ls (.long x.toInt64 :: st)))) : Go p.tables e below G (T.setTop (mkF m pc ls (.int x :: st))) := by
  subst hp; exact Go.via (fun _ k => Jvm.Free.XT.i2l q.1 q.2.1 rfl (hb q.2.2 hd) rfl k) K
theorem g_l2i (q : Q0 p T m c below code) {x : Int64} (hd : decode code pc = .ok (.l2i, 1))  (hp : pc + 1 = pc1) (K : Go p.tables e below G (T.setTop (mkF m pc1 ls (.int x.toInt32 :: st)))) : Go p.tables e below G (T.setTop (mkF m pc ls (.long x :: st))) := by
  subst hp; exact Go.via (fun _ k => Jvm.Free.XT.l2i q.1 q.2.1 rfl (hb q.2.2 hd) rfl k) K
theorem g_ladd (q : Q0 p T m c below code) {x y : Int64} (hd : decode code pc = .ok (.ladd, 1))  (hp : pc + 1 = pc1) (K : Go p.tables e below G (T.setTop (mkF m pc1 ls (.long (x + y) :: st)))) : Go p.tables e below G (T.setTop (mkF m pc ls (.long y :: .long x :: st))) := by
  subst hp; exact Go.via (fun _ k => Jvm.Free.XT.ladd q.1 q.2.1 rfl (hb q.2.2 hd) rfl k) K
theorem g_lsub (q : Q0 p T m c below code) {x y : Int64} (hd : decode code pc = .ok (.lsub, 1))  (hp : pc + 1 = pc1) (K : Go p.tables e below G (T.setTop (mkF m pc1 ls (.long (x - y) :: st)))) : Go p.tables e below G (T.setTop (mkF m pc ls (.long y :: .long x :: st))) := by
  subst hp; exact Go.via (fun _ k => Jvm.Free.XT.lsub q.1 q.2.1 rfl (hb q.2.2 hd) rfl k) K
theorem g_lmul (q : Q0 p T m c below code) {x y : Int64} (hd : decode code pc = .ok (.lmul, 1))  (hp : pc + 1 = pc1) (K : Go p.tables e below G (T.setTop (mkF m pc1 ls (.long (x * y) :: st)))) : Go p.tables e below G (T.setTop (mkF m pc ls (.long y :: .long x :: st))) := by
  subst hp; exact Go.via (fun _ k => Jvm.Free.XT.lmul q.1 q.2.1 rfl (hb q.2.2 hd) rfl k) K
theorem g_land (q : Q0 p T m c below code) {x y : Int64} (hd : decode code pc = .ok (.land, 1))  (hp : pc + 1 = pc1) (K : Go p.tables e below G (T.setTop (mkF m pc1 ls (.long (x &&& y) :: st)))) : Go p.tables e below G (T.setTop (mkF m pc ls (.long y :: .long x :: st))) := by
  subst hp; exact Go.via (fun _ k => Jvm.Free.XT.land q.1 q.2.1 rfl (hb q.2.2 hd) rfl k) K
theorem g_lor (q : Q0 p T m c below code) {x y : Int64} (hd : decode code pc = .ok (.lor, 1))  (hp : pc + 1 = pc1) (K : Go p.tables e below G (T.setTop (mkF m pc1 ls (.long (x ||| y) :: st)))) : Go p.tables e below G (T.setTop (mkF m pc ls (.long y :: .long x :: st))) := by
  subst hp; exact Go.via (fun _ k => Jvm.Free.XT.lor q.1 q.2.1 rfl (hb q.2.2 hd) rfl k) K
theorem g_lshl (q : Q0 p T m c below code) {x : Int64} {y : Int32} (hd : decode code pc = .ok (.lshl, 1))  (hp : pc + 1 = pc1) (K : Go p.tables e below G (T.setTop (mkF m pc1 ls (.long (x <<< (y.toInt64 &&& 63)) :: st)))) : Go p.tables e below G (T.setTop (mkF m pc ls (.int y :: .long x :: st))) := by
  subst hp; exact Go.via (fun _ k => Jvm.Free.XT.lshl q.1 q.2.1 rfl (hb q.2.2 hd) rfl k) K
theorem g_lshr (q : Q0 p T m c below code) {x : Int64} {y : Int32} (hd : decode code pc = .ok (.lshr, 1))  (hp : pc + 1 = pc1) (K : Go p.tables e below G (T.setTop (mkF m pc1 ls (.long (x >>> (y.toInt64 &&& 63)) :: st)))) : Go p.tables e below G (T.setTop (mkF m pc ls (.int y :: .long x :: st))) := by
  subst hp; exact Go.via (fun _ k => Jvm.Free.XT.lshr q.1 q.2.1 rfl (hb q.2.2 hd) rfl k) K
theorem g_lushr (q : Q0 p T m c below code) {x : Int64} {y : Int32} (hd : decode code pc = .ok (.lushr, 1))  (hp : pc + 1 = pc1) (K : Go p.tables e below G (T.setTop (mkF m pc1 ls (.long (Jvm.Free.XT.ushrL x y) :: st)))) : Go p.tables e below G (T.setTop (mkF m pc ls (.int y :: .long x :: st))) := by
  subst hp; exact Go.via (fun _ k => Jvm.Free.XT.lushr q.1 q.2.1 rfl (hb q.2.2 hd) rfl k) K
theorem g_lrem (q : Q0 p T m c below code) {x y : Int64} (hd : decode code pc = .ok (.lrem, 1)) (hy : y ≠ 0) (hp : pc + 1 = pc1) (K : Go p.tables e below G (T.setTop (mkF m pc1 ls (.long (x - (x / y) * y) :: st)))) : Go p.tables e below G (T.setTop (mkF m pc ls (.long y :: .long x :: st))) := by
  subst hp; exact Go.via (fun _ k => Jvm.Free.XT.lrem q.1 q.2.1 rfl (hb q.2.2 hd) rfl hy k) K
theorem g_lneg (q : Q0 p T m c below code) {x : Int64} (hd : decode code pc = .ok (.lneg, 1))  (hp : pc + 1 = pc1) (K : Go p.tables e below G (T.setTop (mkF m pc1 ls (.long (-x) :: st)))) : Go p.tables e below G (T.setTop (mkF m pc ls (.long x :: st))) := by
  subst hp; exact Go.via (fun _ k => Jvm.Free.XT.lneg q.1 q.2.1 rfl (hb q.2.2 hd) rfl k) K
theorem g_lcmp (q : Q0 p T m c below code) {x y : Int64} (hd : decode code pc = .ok (.lcmp, 1))  (hp : pc + 1 = pc1) (K : Go p.tables e below G (T.setTop (mkF m pc1 ls (.int (Jvm.Free.XT.cmpL x y) :: st)))) : Go p.tables e below G (T.setTop (mkF m pc ls (.long y :: .long x :: st))) := by
  subst hp; exact Go.via (fun _ k => Jvm.Free.XT.lcmp q.1 q.2.1 rfl (hb q.2.2 hd) rfl k) K
theorem g_lconst (q : Q0 p T m c below code) {i : Fin 2} {v : Int64} (hd : decode code pc = .ok (.lconst i, 1)) (hv : Int64.ofNat i.val = v) (hp : pc + 1 = pc1) (K : Go p.tables e below G (T.setTop (mkF m pc1 ls (.long v :: st)))) : Go p.tables e below G (T.setTop (mkF m pc ls st)) := by
  subst hp; exact Go.via (fun _ k => Jvm.Free.XT.lconst q.1 q.2.1 rfl (hb q.2.2 hd) (hv ▸ k)) K
theorem g_iinc (q : Q0 p T m c below code) {k : Nat} {i : Int} {v : Int32} (hd : decode code pc = .ok (.iinc k i, 3)) (hl : ls[k]? = some (.val (.int v))) (hl2 : storeLocals ls k (.int (v + Int32.ofInt i)) = some ls2) (hp : pc + 3 = pc1) (K : Go p.tables e below G (T.setTop (mkF m pc1 ls2 st))) : Go p.tables e below G (T.setTop (mkF m pc ls st)) := by
  subst hp; exact Go.via (fun _ k => Jvm.Free.XS.iinc q.1 q.2.1 rfl (hb q.2.2 hd) hl hl2 k) K
theorem g_dup (q : Q0 p T m c below code) {x : Value} (hd : decode code pc = .ok (.dup, 1)) (hc : x.category = 1) (hp : pc + 1 = pc1) (K : Go p.tables e below G (T.setTop (mkF m pc1 ls (x :: x :: st)))) : Go p.tables e below G (T.setTop (mkF m pc ls (x :: st))) := by
  subst hp; exact Go.via (fun _ k => Jvm.Free.XS.dup q.1 q.2.1 rfl (hb q.2.2 hd) rfl hc k) K
theorem g_pop (q : Q0 p T m c below code) {x : Value} (hd : decode code pc = .ok (.pop, 1)) (hc : x.category = 1) (hp : pc + 1 = pc1) (K : Go p.tables e below G (T.setTop (mkF m pc1 ls st))) : Go p.tables e below G (T.setTop (mkF m pc ls (x :: st))) := by
  subst hp; exact Go.via (fun _ k => Jvm.Free.XT.pop q.1 q.2.1 rfl (hb q.2.2 hd) rfl hc k) K
theorem g_dup2 (q : Q0 p T m c below code) {x y : Value} (hd : decode code pc = .ok (.dup2, 1)) (hc : x.category = 1) (hc2 : y.category = 1) (hp : pc + 1 = pc1) (K : Go p.tables e below G (T.setTop (mkF m pc1 ls (x :: y :: x :: y :: st)))) : Go p.tables e below G (T.setTop (mkF m pc ls (x :: y :: st))) := by
  subst hp; exact Go.via (fun _ k => Jvm.Free.XT.dup2 q.1 q.2.1 rfl (hb q.2.2 hd) rfl hc hc2 k) K
theorem g_dloadN (q : Q0 p T m c below code) {k : Fin 4} {v : UInt64} (hd : decode code pc = .ok (.dload_n k, 1)) (hl : ls[k.val]? = some (.val (.double v))) (hp : pc + 1 = pc1) (K : Go p.tables e below G (T.setTop (mkF m pc1 ls (.double v :: st)))) : Go p.tables e below G (T.setTop (mkF m pc ls st)) := by
  subst hp; exact Go.via (fun _ k => Jvm.Free.XS.dloadN q.1 q.2.1 rfl (hb q.2.2 hd) hl k) K
theorem g_dstoreN (q : Q0 p T m c below code) {k : Fin 4} {v : UInt64} (hd : decode code pc = .ok (.dstore_n k, 1)) (hl : storeLocals ls k.val (.double v) = some ls2) (hp : pc + 1 = pc1) (K : Go p.tables e below G (T.setTop (mkF m pc1 ls2 st))) : Go p.tables e below G (T.setTop (mkF m pc ls (.double v :: st))) := by
  subst hp; exact Go.via (fun _ k => Jvm.Free.XS.dstoreN q.1 q.2.1 rfl (hb q.2.2 hd) rfl hl k) K
theorem g_dload (q : Q0 p T m c below code) {k : Nat} {v : UInt64} (hd : decode code pc = .ok (.dload k, 2)) (hl : ls[k]? = some (.val (.double v))) (hp : pc + 2 = pc1) (K : Go p.tables e below G (T.setTop (mkF m pc1 ls (.double v :: st)))) : Go p.tables e below G (T.setTop (mkF m pc ls st)) := by
  subst hp; exact Go.via (fun _ k => Jvm.Free.XS.dload q.1 q.2.1 rfl (hb q.2.2 hd) hl k) K
theorem g_dstore (q : Q0 p T m c below code) {k : Nat} {v : UInt64} (hd : decode code pc = .ok (.dstore k, 2)) (hl : storeLocals ls k (.double v) = some ls2) (hp : pc + 2 = pc1) (K : Go p.tables e below G (T.setTop (mkF m pc1 ls2 st))) : Go p.tables e below G (T.setTop (mkF m pc ls (.double v :: st))) := by
  subst hp; exact Go.via (fun _ k => Jvm.Free.XS.dstore q.1 q.2.1 rfl (hb q.2.2 hd) rfl hl k) K
theorem g_dconst0 (q : Q0 p T m c below code)  (hd : decode code pc = .ok (.dconst 0, 1))  (hp : pc + 1 = pc1) (K : Go p.tables e below G (T.setTop (mkF m pc1 ls (.double 0 :: st)))) : Go p.tables e below G (T.setTop (mkF m pc ls st)) := by
  subst hp; exact Go.via (fun _ k => Jvm.Free.XS.dconst0 q.1 q.2.1 rfl (hb q.2.2 hd) (by decide +kernel) k) K
theorem g_i2d (q : Q0 p T m c below code) {x : Int32} (hd : decode code pc = .ok (.i2d, 1))  (hp : pc + 1 = pc1) (K : Go p.tables e below G (T.setTop (mkF m pc1 ls (.double (FP.i2d x) :: st)))) : Go p.tables e below G (T.setTop (mkF m pc ls (.int x :: st))) := by
  subst hp; exact Go.via (fun _ k => Jvm.Free.XS.i2dS q.1 q.2.1 rfl (hb q.2.2 hd) rfl rfl k) K
theorem g_l2d (q : Q0 p T m c below code) {x : Int64} (hd : decode code pc = .ok (.l2d, 1))  (hp : pc + 1 = pc1) (K : Go p.tables e below G (T.setTop (mkF m pc1 ls (.double (FP.l2d x) :: st)))) : Go p.tables e below G (T.setTop (mkF m pc ls (.long x :: st))) := by
  subst hp; exact Go.via (fun _ k => Jvm.Free.XS.l2dS q.1 q.2.1 rfl (hb q.2.2 hd) rfl rfl k) K
theorem g_dcmp (q : Q0 p T m c below code) {o : CmpOp} {x y : UInt64} (hd : decode code pc = .ok (.dcmp o, 1))  (hp : pc + 1 = pc1) (K : Go p.tables e below G (T.setTop (mkF m pc1 ls (.int (cmpValue (FP.dcmp x y) o) :: st)))) : Go p.tables e below G (T.setTop (mkF m pc ls (.double y :: .double x :: st))) := by
  subst hp; exact Go.via (fun _ k => Jvm.Free.XS.dcmpS q.1 q.2.1 rfl (hb q.2.2 hd) rfl rfl k) K
theorem g_dadd (q : Q0 p T m c below code) {x y : UInt64} (hd : decode code pc = .ok (.dadd, 1)) (hn : Jvm.Free.Fl.NoNaN64 (FP.dadd x y)) (hp : pc + 1 = pc1) (K : Go p.tables e below G (T.setTop (mkF m pc1 ls (.double (FP.dadd x y) :: st)))) : Go p.tables e below G (T.setTop (mkF m pc ls (.double y :: .double x :: st))) := by
  subst hp; exact Go.via (fun _ k => Jvm.Free.XS.daddS q.1 q.2.1 rfl (hb q.2.2 hd) rfl hn rfl k) K
theorem g_dmul (q : Q0 p T m c below code) {x y : UInt64} (hd : decode code pc = .ok (.dmul, 1)) (hn : Jvm.Free.Fl.NoNaN64 (FP.dmul x y)) (hp : pc + 1 = pc1) (K : Go p.tables e below G (T.setTop (mkF m pc1 ls (.double (FP.dmul x y) :: st)))) : Go p.tables e below G (T.setTop (mkF m pc ls (.double y :: .double x :: st))) := by
  subst hp; exact Go.via (fun _ k => Jvm.Free.XS.dmulS q.1 q.2.1 rfl (hb q.2.2 hd) rfl hn rfl k) K
theorem g_floadN (q : Q0 p T m c below code) {k : Fin 4} {v : UInt32} (hd : decode code pc = .ok (.fload_n k, 1)) (hl : ls[k.val]? = some (.val (.float v))) (hp : pc + 1 = pc1) (K : Go p.tables e below G (T.setTop (mkF m pc1 ls (.float v :: st)))) : Go p.tables e below G (T.setTop (mkF m pc ls st)) := by
  subst hp; exact Go.via (fun _ k => Jvm.Free.XS.floadN q.1 q.2.1 rfl (hb q.2.2 hd) hl k) K
theorem g_fstoreN (q : Q0 p T m c below code) {k : Fin 4} {v : UInt32} (hd : decode code pc = .ok (.fstore_n k, 1)) (hl : storeLocals ls k.val (.float v) = some ls2) (hp : pc + 1 = pc1) (K : Go p.tables e below G (T.setTop (mkF m pc1 ls2 st))) : Go p.tables e below G (T.setTop (mkF m pc ls (.float v :: st))) := by
  subst hp; exact Go.via (fun _ k => Jvm.Free.XS.fstoreN q.1 q.2.1 rfl (hb q.2.2 hd) rfl hl k) K
theorem g_fload (q : Q0 p T m c below code) {k : Nat} {v : UInt32} (hd : decode code pc = .ok (.fload k, 2)) (hl : ls[k]? = some (.val (.float v))) (hp : pc + 2 = pc1) (K : Go p.tables e below G (T.setTop (mkF m pc1 ls (.float v :: st)))) : Go p.tables e below G (T.setTop (mkF m pc ls st)) := by
  subst hp; exact Go.via (fun _ k => Jvm.Free.XS.fload q.1 q.2.1 rfl (hb q.2.2 hd) hl k) K
theorem g_fstore (q : Q0 p T m c below code) {k : Nat} {v : UInt32} (hd : decode code pc = .ok (.fstore k, 2)) (hl : storeLocals ls k (.float v) = some ls2) (hp : pc + 2 = pc1) (K : Go p.tables e below G (T.setTop (mkF m pc1 ls2 st))) : Go p.tables e below G (T.setTop (mkF m pc ls (.float v :: st))) := by
  subst hp; exact Go.via (fun _ k => Jvm.Free.XS.fstore q.1 q.2.1 rfl (hb q.2.2 hd) rfl hl k) K
theorem g_i2f (q : Q0 p T m c below code) {x : Int32} (hd : decode code pc = .ok (.i2f, 1))  (hp : pc + 1 = pc1) (K : Go p.tables e below G (T.setTop (mkF m pc1 ls (.float (FP.i2f x) :: st)))) : Go p.tables e below G (T.setTop (mkF m pc ls (.int x :: st))) := by
  subst hp; exact Go.via (fun _ k => Jvm.Free.XS.i2fS q.1 q.2.1 rfl (hb q.2.2 hd) rfl rfl k) K
theorem g_f2d (q : Q0 p T m c below code) {x : UInt32} (hd : decode code pc = .ok (.f2d, 1)) (hn : Jvm.Free.Fl.NoNaN64 (FP.f2d x)) (hp : pc + 1 = pc1) (K : Go p.tables e below G (T.setTop (mkF m pc1 ls (.double (FP.f2d x) :: st)))) : Go p.tables e below G (T.setTop (mkF m pc ls (.float x :: st))) := by
  subst hp; exact Go.via (fun _ k => Jvm.Free.XS.f2dS q.1 q.2.1 rfl (hb q.2.2 hd) rfl hn rfl k) K
theorem g_goto (q : Q0 p T m c below code) {o : Int} (hd : decode code pc = .ok (.goto o, 3)) (ho : 0 ≤ (pc : Int) + o) (hp : ((pc : Int) + o).toNat = pc1) (K : Go p.tables e below G (T.setTop (mkF m pc1 ls st))) : Go p.tables e below G (T.setTop (mkF m pc ls st)) :=
  Go.via (fun _ k => Jvm.Free.XS.goto q.1 q.2.1 rfl rfl (hb q.2.2 hd) ho hp k) K
theorem g_ifY (q : Q0 p T m c below code) {cd : ClassFile.Cond} {x : Int32} {o : Int} (hd : decode code pc = .ok (.ifCond cd o, 3)) (ho : 0 ≤ (pc : Int) + o) (hp : ((pc : Int) + o).toNat = pc1) (h : cv cd x 0) (K : Go p.tables e below G (T.setTop (mkF m pc1 ls st))) : Go p.tables e below G (T.setTop (mkF m pc ls (.int x :: st))) :=
  Go.via (fun _ k => Jvm.Free.XS.ifYes q.1 q.2.1 rfl rfl (hb q.2.2 hd) rfl (by rw [if0]; exact cvY h) ho hp k) K
theorem g_ifN (q : Q0 p T m c below code) {cd : ClassFile.Cond} {x : Int32} {o : Int} (hd : decode code pc = .ok (.ifCond cd o, 3)) (hp : pc + 3 = pc2) (h : ¬ cv cd x 0) (K : Go p.tables e below G (T.setTop (mkF m pc2 ls st))) : Go p.tables e below G (T.setTop (mkF m pc ls (.int x :: st))) := by
  subst hp; exact Go.via (fun _ k => Jvm.Free.XS.ifNo q.1 q.2.1 rfl (hb q.2.2 hd) rfl (by rw [if0]; exact cvN h) k) K
theorem g_if (q : Q0 p T m c below code) {cd : ClassFile.Cond} {x : Int32} {o : Int} (hd : decode code pc = .ok (.ifCond cd o, 3)) (ho : 0 ≤ (pc : Int) + o) (hp : ((pc : Int) + o).toNat = pc1) (hp2 : pc + 3 = pc2) (K : cv cd x 0 → Go p.tables e below G (T.setTop (mkF m pc1 ls st))) (K2 : ¬ cv cd x 0 → Go p.tables e below G (T.setTop (mkF m pc2 ls st))) : Go p.tables e below G (T.setTop (mkF m pc ls (.int x :: st))) :=
  (cvD cd x 0).elim (fun h => g_ifY q hd ho hp h (K h)) (fun h => g_ifN q hd hp2 h (K2 h))
theorem g_cmpY (q : Q0 p T m c below code) {cd : ClassFile.Cond} {x y : Int32} {o : Int} (hd : decode code pc = .ok (.if_icmp cd o, 3)) (ho : 0 ≤ (pc : Int) + o) (hp : ((pc : Int) + o).toNat = pc1) (h : cv cd x y) (K : Go p.tables e below G (T.setTop (mkF m pc1 ls st))) : Go p.tables e below G (T.setTop (mkF m pc ls (.int y :: .int x :: st))) :=
  Go.via (fun _ k => Jvm.Free.XS.icmpYes q.1 q.2.1 rfl rfl (hb q.2.2 hd) rfl (cvY h) ho hp k) K
theorem g_cmpN (q : Q0 p T m c below code) {cd : ClassFile.Cond} {x y : Int32} {o : Int} (hd : decode code pc = .ok (.if_icmp cd o, 3)) (hp : pc + 3 = pc2) (h : ¬ cv cd x y) (K : Go p.tables e below G (T.setTop (mkF m pc2 ls st))) : Go p.tables e below G (T.setTop (mkF m pc ls (.int y :: .int x :: st))) := by
  subst hp; exact Go.via (fun _ k => Jvm.Free.XS.icmpNo q.1 q.2.1 rfl (hb q.2.2 hd) rfl (cvN h) k) K
theorem g_cmp (q : Q0 p T m c below code) {cd : ClassFile.Cond} {x y : Int32} {o : Int} (hd : decode code pc = .ok (.if_icmp cd o, 3)) (ho : 0 ≤ (pc : Int) + o) (hp : ((pc : Int) + o).toNat = pc1) (hp2 : pc + 3 = pc2) (K : cv cd x y → Go p.tables e below G (T.setTop (mkF m pc1 ls st))) (K2 : ¬ cv cd x y → Go p.tables e below G (T.setTop (mkF m pc2 ls st))) : Go p.tables e below G (T.setTop (mkF m pc ls (.int y :: .int x :: st))) :=
  (cvD cd x y).elim (fun h => g_cmpY q hd ho hp h (K h)) (fun h => g_cmpN q hd hp2 h (K2 h))
theorem g_nullY (q : Q0 p T m c below code) {o : Int} (hd : decode code pc = .ok (.ifnull o, 3)) (ho : 0 ≤ (pc : Int) + o) (hp : ((pc : Int) + o).toNat = pc1) (K : Go p.tables e below G (T.setTop (mkF m pc1 ls st))) : Go p.tables e below G (T.setTop (mkF m pc ls (.null :: st))) :=
  Go.via (fun _ k => Jvm.Free.XS.ifnullYes q.1 q.2.1 rfl rfl (hb q.2.2 hd) rfl ho hp k) K
theorem g_nullN (q : Q0 p T m c below code) {o : Int} {b : Addr} (hd : decode code pc = .ok (.ifnull o, 3)) (hp : pc + 3 = pc2) (K : Go p.tables e below G (T.setTop (mkF m pc2 ls st))) : Go p.tables e below G (T.setTop (mkF m pc ls (.ref b :: st))) := by
  subst hp; exact Go.via (fun _ k => Jvm.Free.XS.ifnullNo q.1 q.2.1 rfl (hb q.2.2 hd) rfl k) K
theorem g_nonY (q : Q0 p T m c below code) {b : Addr} {o : Int} (hd : decode code pc = .ok (.ifnonnull o, 3)) (ho : 0 ≤ (pc : Int) + o) (hp : ((pc : Int) + o).toNat = pc1) (K : Go p.tables e below G (T.setTop (mkF m pc1 ls st))) : Go p.tables e below G (T.setTop (mkF m pc ls (.ref b :: st))) :=
  Go.via (fun _ k => Jvm.Free.XT.ifnonnullYes q.1 q.2.1 rfl rfl (hb q.2.2 hd) rfl ho hp k) K
theorem g_nonN (q : Q0 p T m c below code) {o : Int} (hd : decode code pc = .ok (.ifnonnull o, 3)) (hp : pc + 3 = pc2) (K : Go p.tables e below G (T.setTop (mkF m pc2 ls st))) : Go p.tables e below G (T.setTop (mkF m pc ls (.null :: st))) := by
  subst hp; exact Go.via (fun _ k => Jvm.Free.XT.ifnonnullNo q.1 q.2.1 rfl (hb q.2.2 hd) rfl k) K
theorem g_acmpY (q : Q0 p T m c below code) {cd : ClassFile.ACond} {x y : Value} {o : Int} (hd : decode code pc = .ok (.if_acmp cd o, 3)) (ho : 0 ≤ (pc : Int) + o) (hp : ((pc : Int) + o).toNat = pc1) (hx : x.isRef = true) (hy : y.isRef = true) (h : Jvm.Free.XT.acmp cd x y = true) (K : Go p.tables e below G (T.setTop (mkF m pc1 ls st))) : Go p.tables e below G (T.setTop (mkF m pc ls (y :: x :: st))) :=
  Go.via (fun _ k => Jvm.Free.XT.acmpYes q.1 q.2.1 rfl rfl (hb q.2.2 hd) rfl hx hy h ho hp k) K
theorem g_acmpN (q : Q0 p T m c below code) {cd : ClassFile.ACond} {x y : Value} {o : Int} (hd : decode code pc = .ok (.if_acmp cd o, 3)) (hp : pc + 3 = pc2) (hx : x.isRef = true) (hy : y.isRef = true) (h : Jvm.Free.XT.acmp cd x y = false) (K : Go p.tables e below G (T.setTop (mkF m pc2 ls st))) : Go p.tables e below G (T.setTop (mkF m pc ls (y :: x :: st))) := by
  subst hp; exact Go.via (fun _ k => Jvm.Free.XT.acmpNo q.1 q.2.1 rfl (hb q.2.2 hd) rfl hx hy h k) K
end Plain
/-- every place lies in a cell of wl, or in one made since -/
def Frw (wl : List Addr) (n : Nat) (L : List Loc) : Prop := ∀ y ∈ L, y.base ∈ wl ∨ n ≤ y.base
theorem Frw.nil {wl : List Addr} {n : Nat} : Frw wl n [] := fun _ q => nomatch q
theorem Frw.app {wl : List Addr} {n : Nat} {L L' : List Loc} (A : Frw wl n L) (B : Frw wl n L') : Frw wl n (L ++ L') := fun y q => (List.mem_append.mp q).elim (A y) (B y)
theorem Frw.snoc {wl : List Addr} {n : Nat} {L : List Loc} {a : Addr} {sl : Nat} (A : Frw wl n L) (q : a ∈ wl ∨ n ≤ a) : Frw wl n (L ++ [⟨a, sl⟩]) := A.app fun y hy => by cases List.mem_singleton.mp hy; exact q
theorem Frw.up {wl wl' : List Addr} {n n' : Nat} {L : List Loc} (A : Frw wl n L) (hn : n' ≤ n) (q : ∀ x ∈ wl, x ∈ wl' ∨ n' ≤ x) : Frw wl' n' L := fun y hy => (A y hy).elim (q _) (fun z => Or.inr (Nat.le_trans hn z))
theorem Frw.of_fr {wl : List Addr} {n n' : Nat} {L : List Loc} (A : Fr n L) (hn : n' ≤ n) : Frw wl n' L := fun y hy => Or.inr (Nat.le_trans hn (A y hy))
/-- where a walk stands: s its true start, vm0 the tables of its last interning step, h the heap -/
def Pos (p : Program) (l : Launch) (e : Env) (R : Room) (s : State) (m : MethodId) (args : Array Value) (below : List Frame) (meth : Method) (c : Code) (code : ByteArray) (Z : State) (EL : List (String × Nat)) (wl : List Addr) (hS : Heap) (own : String) (vm0 : Vm) (T : State) (locs : List Loc) (cells slots : Nat) (h : Heap) : Prop :=
  Stand p l e R (s.setVm vm0) m args below meth c T locs cells slots ∧ T.heap = h ∧ (∃ k0, s.Since vm0 k0 ∧ k0 ≤ h.size) ∧ Z.Warmed39 vm0 ∧ vm0.findClass own = some m.cls ∧ Frw wl hS.size locs ∧ s.heap = hS ∧ CHr Z EL s.vm hS vm0 h ∧ p.tables.exec = Jvm.exec ∧ c.code = code
section Heapy
variable {p : Program} {l : Launch} {e : Env} {R : Room} {s : State} {m : MethodId} {args : Array Value} {below : List Frame} {meth : Method} {c : Code} {code : ByteArray} {Z : State} {EL : List (String × Nat)} {wl : List Addr} {hS : Heap} {own : String} {vm0 : Vm} {T : State} {locs : List Loc} {cells slots : Nat} {h : Heap} {a0 : Array Value} {G : Outcome → State → Prop} {pc pc1 pc2 : Nat} {ls ls2 : Array Slot} {st : List Value}
theorem Pos.q (P : Pos p l e R s m args below meth c code Z EL wl hS own vm0 T locs cells slots h) : Q0 p T m c below code := ⟨P.1.here, P.2.2.2.2.2.2.2.2⟩
theorem Pos.hz (P : Pos p l e R s m args below meth c code Z EL wl hS own vm0 T locs cells slots h) : Z.Warmed39 (s.setVm vm0).vm := P.2.2.2.1
theorem Pos.al (P : Pos p l e R s m args below meth c code Z EL wl hS own vm0 T locs cells slots h) : Z.vm.Alike vm0 := P.2.2.2.1.alike
theorem Pos.heap (P : Pos p l e R s m args below meth c code Z EL wl hS own vm0 T locs cells slots h) : T.heap = h := P.2.1
theorem Pos.fr (P : Pos p l e R s m args below meth c code Z EL wl hS own vm0 T locs cells slots h) : Frw wl hS.size locs := P.2.2.2.2.2.1
theorem Pos.sz (P : Pos p l e R s m args below meth c code Z EL wl hS own vm0 T locs cells slots h) : hS.size ≤ h.size := P.2.2.2.2.2.2.2.1.2.1
theorem Pos.chv (P : Pos p l e R s m args below meth c code Z EL wl hS own vm0 T locs cells slots h) : CHv Z EL vm0 h := P.2.2.2.2.2.2.2.1.1
theorem Pos.chr (P : Pos p l e R s m args below meth c code Z EL wl hS own vm0 T locs cells slots h) : CHr Z EL s.vm hS vm0 h := P.2.2.2.2.2.2.2.1
theorem Pos.mono (P : Pos p l e R s m args below meth c code Z EL wl hS own vm0 T locs cells slots h) {cells' slots' : Nat} (hc : cells ≤ cells') (hs : slots ≤ slots') : Pos p l e R s m args below meth c code Z EL wl hS own vm0 T locs cells' slots' h := ⟨P.1.mono hc hs, P.2⟩
theorem Pos.keep (P : Pos p l e R s m args below meth c code Z EL wl hS own vm0 T locs cells slots h) : Keep hS h wl := by
  obtain ⟨X, rfl, -, -, -, N, rfl, -⟩ := P
  have hsame := X.same
  have key : ∀ (x : Addr) (c0 : Cell), s.heap[x]? = some c0 → x ∉ wl → T.heap[x]? = some c0 := fun x c0 q r => by
    obtain ⟨c', h1, h2, -, h4⟩ := hsame.2.2.2.2.2 x c0 q
    have hb := (Array.getElem?_eq_some_iff.mp q).1
    have hsl : c'.slots = c0.slots := Array.ext_getElem? fun i => h4 i fun hm => (N _ hm).elim r (fun z => absurd hb (Nat.not_lt.mpr z))
    have hcc : c' = c0 := by rw [h2, hsl]
    rw [← hcc]; exact h1
  exact ⟨hsame.2.1, key, fun x c0 q => by
    obtain ⟨c', h1, h2, h3, -⟩ := hsame.2.2.2.2.2 x c0 q
    exact ⟨c', h1, by rw [h2], by rw [h2], h3⟩⟩
theorem Pos.ext0 (P : Pos p l e R s m args below meth c code Z EL [] hS own vm0 T locs cells slots h) : Ext hS h := ⟨P.keep.1, fun a c q => P.keep.2.1 a c q nin0⟩
theorem Pos.extZ (P : Pos p l e R s m args below meth c code Z EL wl hS own vm0 T locs cells slots h) (EZ : Ext Z.heap hS) (q : ∀ x ∈ wl, Z.heap.size ≤ x) : Ext Z.heap h := ⟨Nat.le_trans EZ.1 P.keep.1, fun a c r => P.keep.2.1 a c (EZ.2 a c r) fun z => absurd (Array.getElem?_eq_some_iff.mp r).1 (Nat.not_lt.mpr (q a z))⟩
/-- a step that leaves heap and tables of interned texts as they are -/
theorem Pos.same (P : Pos p l e R s m args below meth c code Z EL wl hS own vm0 T locs cells slots h) {T' : State} (X' : Stand p l e R (s.setVm vm0) m args below meth c T' locs cells slots) (e' : T'.heap = h) : Pos p l e R s m args below meth c code Z EL wl hS own vm0 T' locs cells slots h := by
  obtain ⟨X, eT, hsi, hZ, hown, N, n1, C, hx, hby⟩ := P; exact ⟨X', e', hsi, hZ, hown, N, n1, C, hx, hby⟩
theorem Pos.grown (P : Pos p l e R s m args below meth c code Z EL wl hS own vm0 T locs cells slots h) {T' : State} {h' : Heap} {cells' slots' : Nat} (X' : Stand p l e R (s.setVm vm0) m args below meth c T' locs cells' slots') (e' : T'.heap = h') (E : Ext h h') : Pos p l e R s m args below meth c code Z EL wl hS own vm0 T' locs cells' slots' h' := by
  obtain ⟨X, eT, hsi, hZ, hown, N, n1, C, hx, hby⟩ := P; obtain ⟨k0, q1, q2⟩ := hsi; exact ⟨X', e', ⟨k0, q1, Nat.le_trans q2 E.1⟩, hZ, hown, N, n1, C.trans (CHr.ext E C.1), hx, hby⟩
theorem Pos.wrote (P : Pos p l e R s m args below meth c code Z EL wl hS own vm0 T locs cells slots h) {T' : State} {h' : Heap} {a : Addr} {sl : Nat} {v : Value} (X' : Stand p l e R (s.setVm vm0) m args below meth c T' (locs ++ [⟨a, sl⟩]) cells slots) (e' : T'.heap = h') (Wq : Wr h h' a sl v) (ga : a ∈ wl ∨ hS.size ≤ a) (S : Safe Z EL vm0 h a) : Pos p l e R s m args below meth c code Z EL wl hS own vm0 T' (locs ++ [⟨a, sl⟩]) cells slots h' := by
  obtain ⟨X, eT, hsi, hZ, hown, N, n1, C, hx, hby⟩ := P; obtain ⟨k0, q1, q2⟩ := hsi; have hs := Wq.size; exact ⟨X', e', ⟨k0, q1, by omega⟩, hZ, hown, N.snoc ga, n1, C.trans (CHr.wr Wq S C.1), hx, hby⟩
theorem Pos.came (P : Pos p l e R s m args below meth c code Z EL wl hS own vm0 T locs cells slots h) {T' : State} {L : List Loc} {cells' slots' : Nat} (X' : Stand p l e R (s.setVm vm0) m args below meth c T' (locs ++ L) cells' slots') (F : Frw wl hS.size L) (C' : CHr Z EL vm0 h vm0 T'.heap) : Pos p l e R s m args below meth c code Z EL wl hS own vm0 T' (locs ++ L) cells' slots' T'.heap := by
  obtain ⟨X, eT, hsi, hZ, hown, N, n1, C, hx, hby⟩ := P; obtain ⟨k0, q1, q2⟩ := hsi; have hs := C'.2.1; exact ⟨X', rfl, ⟨k0, q1, Nat.le_trans q2 hs⟩, hZ, hown, N.app F, n1, C.trans C', hx, hby⟩
theorem Pos.cameW (P : Pos p l e R s m args below meth c code Z EL wl hS own vm0 T locs cells slots h) {T' : State} {L : List Loc} {cells' slots' : Nat} (X' : Stand p l e R ((s.setVm vm0).setVm T'.vm) m args below meth c T' (locs ++ L) cells' slots') (h2 : (s.setVm vm0).Since T'.vm T'.heap.size) (g : h.size ≤ T'.heap.size) (F : Frw wl hS.size L) (C' : CHr Z EL vm0 h T'.vm T'.heap) : Pos p l e R s m args below meth c code Z EL wl hS own T'.vm T' (locs ++ L) cells' slots' T'.heap := by
  obtain ⟨X, eT, hsi, hZ, hown, N, n1, C, hx, hby⟩ := P; obtain ⟨k0, q1, q2⟩ := hsi
  obtain ⟨y1, y2, y3, y4⟩ := rebS q1 q2 X' h2 g hZ hown
  exact ⟨y1, rfl, ⟨_, y2, Nat.le_refl _⟩, y3, y4, N.app F, n1, C.trans C', hx, hby⟩
theorem Pos.getF (P : Pos p l e R s m args below meth c code Z EL wl hS own vm0 T locs cells slots h) {R0 O n d host : String} {index : Nat} {a : Addr} {v : Value} (w : (Cond.fieldLink own index R0 n d).before a0 Z = true ∨ (Cond.fieldLinkNest own index R0 n d host).before a0 Z = true) (via : Via Z R0 O n d) (F : Fld Z h a O n d v) (hd : decode code pc = .ok (.getfield index, 3)) (hp : pc + 3 = pc1) (K : ∀ (T' : State), Pos p l e R s m args below meth c code Z EL wl hS own vm0 T' locs cells slots h → Go p.tables e below G (T'.setTop (mkF m pc1 ls (v :: st)))) : Go p.tables e below G (T.setTop (mkF m pc ls (.ref a :: st))) := by
  subst hp
  obtain ⟨T', X', e', stp⟩ := RoadKit.getF P.1 P.q.2.1 P.hz P.2.2.2.2.1 w via P.heap F (g := mkF m pc ls (.ref a :: st)) rfl rfl (hb P.q.2.2 hd)
  exact Go.via stp (K T' (P.same X' e'))
theorem Pos.getS (P : Pos p l e R s m args below meth c code Z EL wl hS own vm0 T locs cells slots h) {R0 O n d : String} {index : Nat} {v : Value} (w : (Cond.fieldLink own index R0 n d).before a0 Z = true) (via : Via Z R0 O n d) (F : Sta Z h O n d v) (hd : decode code pc = .ok (.getstatic index, 3)) (hp : pc + 3 = pc1) (K : ∀ (T' : State), Pos p l e R s m args below meth c code Z EL wl hS own vm0 T' locs cells slots h → Go p.tables e below G (T'.setTop (mkF m pc1 ls (v :: st)))) : Go p.tables e below G (T.setTop (mkF m pc ls st)) := by
  subst hp
  obtain ⟨T', X', e', stp⟩ := RoadKit.getS (host := "") P.1 P.q.2.1 P.hz P.2.2.2.2.1 w via P.heap F (g := mkF m pc ls st) rfl (hb P.q.2.2 hd)
  exact Go.via stp (K T' (P.same X' e'))
theorem Pos.putF (P : Pos p l e R s m args below meth c code Z EL wl hS own vm0 T locs cells slots h) {R0 O n d host C : String} {index kk : Nat} {ty : FieldType} {a : Addr} {v old : Value} (w : (Cond.fieldLink own index R0 n d).before a0 Z = true ∨ (Cond.fieldLinkNest own index R0 n d host).before a0 Z = true) (via : Via Z R0 O n d) (F : Fld Z h a O n d old) (E : Exa Z h a C) (L : (Cond.lays C O n d).before a0 Z = true ∨ ((Cond.laysFinal C O n d).before a0 Z = true ∧ own = O ∧ meth.name = "<init>")) (wi : (Cond.instantiable C kk).before a0 Z = true) (hty : parseFieldDescriptor d = some ty) (hn : narrow ty v = v) (hf : fits ty v = true) (ga : a ∈ wl ∨ hS.size ≤ a) (S : Safe Z EL vm0 h a) (hd : decode code pc = .ok (.putfield index, 3)) (hp : pc + 3 = pc1) (K : ∀ (T' : State) (h' : Heap), Pos p l e R s m args below meth c code Z EL wl hS own vm0 T' (locs ++ [⟨a, RoadKit.slotOf Z O n d⟩]) cells slots h' → Wr h h' a (RoadKit.slotOf Z O n d) v → Go p.tables e below G (T'.setTop (mkF m pc1 ls st))) : Go p.tables e below G (T.setTop (mkF m pc ls (v :: .ref a :: st))) := by
  subst hp
  obtain ⟨T', h', X', e', W', stp⟩ := RoadKit.putF P.1 P.q.2.1 P.hz P.2.2.2.2.1 w via P.heap F E L wi hty hn hf (g := mkF m pc ls (v :: .ref a :: st)) rfl rfl (hb P.q.2.2 hd)
  exact Go.via stp (K T' h' (P.wrote X' e' W' ga S) W')
theorem Pos.newO (P : Pos p l e R s m args below meth c code Z EL wl hS own vm0 T locs cells slots h) {C : String} {index n : Nat} (w : (Cond.classLink own index C).before a0 Z = true) (wi : (Cond.instantiable C n).before a0 Z = true) (wz : (Cond.initialized C).before a0 Z = true) (hc : cells + 1 ≤ R.cells) (hl : slots + n ≤ R.slots) (hd : decode code pc = .ok (.new index, 3)) (hp : pc + 3 = pc1) (K : ∀ (T' : State) (h' : Heap) (x : Addr), x = h.size → Pos p l e R s m args below meth c code Z EL wl hS own vm0 T' locs (cells + 1) (slots + n) h' → Ext h h' → Exa Z h' x C → (∀ {O nm d : String} {ty : FieldType}, Laid Z a0 C O nm d → parseFieldDescriptor d = some ty → Fld Z h' x O nm d (defaultValue ty)) → (∃ cell : Cell, h'[x]? = some cell ∧ cell.vm = .none ∧ cell.monitor = {}) → Go p.tables e below G (T'.setTop (mkF m pc1 ls (.ref x :: st)))) : Go p.tables e below G (T.setTop (mkF m pc ls st)) := by
  subst hp
  obtain ⟨T', h', X', e', E', A', D', U', stp⟩ := RoadKit.newO P.1 P.q.2.1 P.hz P.2.2.2.2.1 w wi wz P.heap (g := mkF m pc ls st) rfl (hb P.q.2.2 hd) hc hl
  exact Go.via stp (K T' h' _ rfl (P.grown X' e' E') E' A' D' U')
theorem Pos.newP (P : Pos p l e R s m args below meth c code Z EL wl hS own vm0 T locs cells slots h) {aty : ArrayType} {n : Int32} {cap : Nat} (w : (Cond.arrayClass (newarray.typeOf aty)).before a0 Z = true) (hn : ¬ n < 0) (hcap : n.toNatClampNeg ≤ cap) (hb8 : cap * 8 ≤ 536870912) (hc : cells + 1 ≤ R.cells) (hl : slots + cap ≤ R.slots) (hd : decode code pc = .ok (.newarray aty, 2)) (hp : pc + 2 = pc1) (K : ∀ (T' : State) (h' : Heap) (x : Addr) (k : ClassId), x = h.size → Pos p l e R s m args below meth c code Z EL wl hS own vm0 T' locs (cells + 1) (slots + cap) h' → Ext h h' → Arv Z h' x k (newarray.typeOf aty) n (List.replicate n.toNatClampNeg (defaultValue (newarray.typeOf aty))) (defaultValue (newarray.typeOf aty)) → Go p.tables e below G (T'.setTop (mkF m pc1 ls (.ref x :: st)))) : Go p.tables e below G (T.setTop (mkF m pc ls (.int n :: st))) := by
  subst hp
  obtain ⟨T', h', k, X', e', E', A', stp⟩ := RoadKit.newP P.1 P.q.2.1 P.hz w P.heap (g := mkF m pc ls (.int n :: st)) rfl (hb P.q.2.2 hd) rfl hn hcap hb8 hc hl
  exact Go.via stp (K T' h' _ k rfl (P.grown X' e' E') E' ((Arv.new A' hn).pad (pad_rep [] _ _)))
theorem Pos.stC (P : Pos p l e R s m args below meth c code Z EL wl hS own vm0 T locs cells slots h) {a : Addr} {k : ClassId} {z j : Int32} {x : Int32} {vs : List Value} {d : Value} {i : Nat} (V : Arv Z h a k .char z vs d) (hj : ¬ j < 0) (hi : j.toNatClampNeg = i) (hl : i < vs.length) (hz : z.toNatClampNeg = vs.length) (ga : a ∈ wl ∨ hS.size ≤ a) (S : Safe Z EL vm0 h a) (hd : decode code pc = .ok (.castore, 1)) (hp : pc + 1 = pc1) (K : ∀ (T' : State) (h' : Heap), Pos p l e R s m args below meth c code Z EL wl hS own vm0 T' (locs ++ [⟨a, j.toNatClampNeg⟩]) cells slots h' → Wr h h' a j.toNatClampNeg (.int (nar .char x)) → Arv Z h' a k .char z (vs.set i (.int (nar .char x))) d → Go p.tables e below G (T'.setTop (mkF m pc1 ls st))) : Go p.tables e below G (T.setTop (mkF m pc ls (.int x :: .int j :: .ref a :: st))) := by
  subst hp
  obtain ⟨cl, A, q1, S1, q3, H1, G1⟩ := V
  obtain ⟨T', h', X', e', W', stp⟩ := RoadKit.stC P.1 P.q.2.1 P.hz P.heap A (j := j) (x := x) (fun y => y.elim hj (fun y => by rw [S1] at y; omega)) (g := mkF m pc ls (.int x :: .int j :: .ref a :: st)) rfl rfl (hb P.q.2.2 hd)
  exact Go.via stp (K T' h' (P.wrote X' e' W' ga S) W' (Arv.set A q1 S1 q3 H1 G1 (fits_nar_char x) W' i hi hl))
theorem Pos.stB (P : Pos p l e R s m args below meth c code Z EL wl hS own vm0 T locs cells slots h) {a : Addr} {k : ClassId} {z j : Int32} {x : Int32} {vs : List Value} {d : Value} {i : Nat} (V : Arv Z h a k .byte z vs d) (hj : ¬ j < 0) (hi : j.toNatClampNeg = i) (hl : i < vs.length) (hz : z.toNatClampNeg = vs.length) (ga : a ∈ wl ∨ hS.size ≤ a) (S : Safe Z EL vm0 h a) (hd : decode code pc = .ok (.bastore, 1)) (hp : pc + 1 = pc1) (K : ∀ (T' : State) (h' : Heap), Pos p l e R s m args below meth c code Z EL wl hS own vm0 T' (locs ++ [⟨a, j.toNatClampNeg⟩]) cells slots h' → Wr h h' a j.toNatClampNeg (.int (nar .byte x)) → Arv Z h' a k .byte z (vs.set i (.int (nar .byte x))) d → Go p.tables e below G (T'.setTop (mkF m pc1 ls st))) : Go p.tables e below G (T.setTop (mkF m pc ls (.int x :: .int j :: .ref a :: st))) := by
  subst hp
  obtain ⟨cl, A, q1, S1, q3, H1, G1⟩ := V
  obtain ⟨T', h', X', e', W', stp⟩ := RoadKit.stB P.1 P.q.2.1 P.hz P.heap A (j := j) (x := x) (fun y => y.elim hj (fun y => by rw [S1] at y; omega)) (g := mkF m pc ls (.int x :: .int j :: .ref a :: st)) rfl rfl (hb P.q.2.2 hd)
  exact Go.via stp (K T' h' (P.wrote X' e' W' ga S) W' (Arv.set A q1 S1 q3 H1 G1 (fits_nar_byte x) W' i hi hl))
theorem Pos.stZ (P : Pos p l e R s m args below meth c code Z EL wl hS own vm0 T locs cells slots h) {a : Addr} {k : ClassId} {z j : Int32} {x : Int32} {vs : List Value} {d : Value} {i : Nat} (V : Arv Z h a k .boolean z vs d) (hj : ¬ j < 0) (hi : j.toNatClampNeg = i) (hl : i < vs.length) (hz : z.toNatClampNeg = vs.length) (ga : a ∈ wl ∨ hS.size ≤ a) (S : Safe Z EL vm0 h a) (hd : decode code pc = .ok (.bastore, 1)) (hp : pc + 1 = pc1) (K : ∀ (T' : State) (h' : Heap), Pos p l e R s m args below meth c code Z EL wl hS own vm0 T' (locs ++ [⟨a, j.toNatClampNeg⟩]) cells slots h' → Wr h h' a j.toNatClampNeg (.int (nar .boolean x)) → Arv Z h' a k .boolean z (vs.set i (.int (nar .boolean x))) d → Go p.tables e below G (T'.setTop (mkF m pc1 ls st))) : Go p.tables e below G (T.setTop (mkF m pc ls (.int x :: .int j :: .ref a :: st))) := by
  subst hp
  obtain ⟨cl, A, q1, S1, q3, H1, G1⟩ := V
  obtain ⟨T', h', X', e', W', stp⟩ := RoadKit.stZ P.1 P.q.2.1 P.hz P.heap A (j := j) (x := x) (fun y => y.elim hj (fun y => by rw [S1] at y; omega)) (g := mkF m pc ls (.int x :: .int j :: .ref a :: st)) rfl rfl (hb P.q.2.2 hd)
  exact Go.via stp (K T' h' (P.wrote X' e' W' ga S) W' (Arv.set A q1 S1 q3 H1 G1 (fits_nar_bool x) W' i hi hl))
theorem Pos.stI (P : Pos p l e R s m args below meth c code Z EL wl hS own vm0 T locs cells slots h) {a : Addr} {k : ClassId} {z j : Int32} {x : Int32} {vs : List Value} {d : Value} {i : Nat} (V : Arv Z h a k .int z vs d) (hj : ¬ j < 0) (hi : j.toNatClampNeg = i) (hl : i < vs.length) (hz : z.toNatClampNeg = vs.length) (ga : a ∈ wl ∨ hS.size ≤ a) (S : Safe Z EL vm0 h a) (hd : decode code pc = .ok (.iastore, 1)) (hp : pc + 1 = pc1) (K : ∀ (T' : State) (h' : Heap), Pos p l e R s m args below meth c code Z EL wl hS own vm0 T' (locs ++ [⟨a, j.toNatClampNeg⟩]) cells slots h' → Wr h h' a j.toNatClampNeg (.int x) → Arv Z h' a k .int z (vs.set i (.int x)) d → Go p.tables e below G (T'.setTop (mkF m pc1 ls st))) : Go p.tables e below G (T.setTop (mkF m pc ls (.int x :: .int j :: .ref a :: st))) := by
  subst hp
  obtain ⟨cl, A, q1, S1, q3, H1, G1⟩ := V
  obtain ⟨T', h', X', e', W', stp⟩ := RoadKit.stI P.1 P.q.2.1 P.hz P.heap A (j := j) (x := x) (fun y => y.elim hj (fun y => by rw [S1] at y; omega)) (g := mkF m pc ls (.int x :: .int j :: .ref a :: st)) rfl rfl (hb P.q.2.2 hd)
  exact Go.via stp (K T' h' (P.wrote X' e' W' ga S) W' (Arv.set A q1 S1 q3 H1 G1 (rfl) W' i hi hl))
theorem Pos.stJ (P : Pos p l e R s m args below meth c code Z EL wl hS own vm0 T locs cells slots h) {a : Addr} {k : ClassId} {z j : Int32} {x : Int64} {vs : List Value} {d : Value} {i : Nat} (V : Arv Z h a k .long z vs d) (hj : ¬ j < 0) (hi : j.toNatClampNeg = i) (hl : i < vs.length) (hz : z.toNatClampNeg = vs.length) (ga : a ∈ wl ∨ hS.size ≤ a) (S : Safe Z EL vm0 h a) (hd : decode code pc = .ok (.lastore, 1)) (hp : pc + 1 = pc1) (K : ∀ (T' : State) (h' : Heap), Pos p l e R s m args below meth c code Z EL wl hS own vm0 T' (locs ++ [⟨a, j.toNatClampNeg⟩]) cells slots h' → Wr h h' a j.toNatClampNeg (.long x) → Arv Z h' a k .long z (vs.set i (.long x)) d → Go p.tables e below G (T'.setTop (mkF m pc1 ls st))) : Go p.tables e below G (T.setTop (mkF m pc ls (.long x :: .int j :: .ref a :: st))) := by
  subst hp
  obtain ⟨cl, A, q1, S1, q3, H1, G1⟩ := V
  obtain ⟨T', h', X', e', W', stp⟩ := RoadKit.stJ P.1 P.q.2.1 P.hz P.heap A (j := j) (x := x) (fun y => y.elim hj (fun y => by rw [S1] at y; omega)) (g := mkF m pc ls (.long x :: .int j :: .ref a :: st)) rfl rfl (hb P.q.2.2 hd)
  exact Go.via stp (K T' h' (P.wrote X' e' W' ga S) W' (Arv.set A q1 S1 q3 H1 G1 (rfl) W' i hi hl))
theorem Pos.stD (P : Pos p l e R s m args below meth c code Z EL wl hS own vm0 T locs cells slots h) {a : Addr} {k : ClassId} {z j : Int32} {x : UInt64} {vs : List Value} {d : Value} {i : Nat} (V : Arv Z h a k .double z vs d) (hj : ¬ j < 0) (hi : j.toNatClampNeg = i) (hl : i < vs.length) (hz : z.toNatClampNeg = vs.length) (ga : a ∈ wl ∨ hS.size ≤ a) (S : Safe Z EL vm0 h a) (hd : decode code pc = .ok (.dastore, 1)) (hp : pc + 1 = pc1) (K : ∀ (T' : State) (h' : Heap), Pos p l e R s m args below meth c code Z EL wl hS own vm0 T' (locs ++ [⟨a, j.toNatClampNeg⟩]) cells slots h' → Wr h h' a j.toNatClampNeg (.double x) → Arv Z h' a k .double z (vs.set i (.double x)) d → Go p.tables e below G (T'.setTop (mkF m pc1 ls st))) : Go p.tables e below G (T.setTop (mkF m pc ls (.double x :: .int j :: .ref a :: st))) := by
  subst hp
  obtain ⟨cl, A, q1, S1, q3, H1, G1⟩ := V
  obtain ⟨T', h', X', e', W', stp⟩ := RoadKit.stD P.1 P.q.2.1 P.hz P.heap A (j := j) (x := x) (fun y => y.elim hj (fun y => by rw [S1] at y; omega)) (g := mkF m pc ls (.double x :: .int j :: .ref a :: st)) rfl rfl (hb P.q.2.2 hd)
  exact Go.via stp (K T' h' (P.wrote X' e' W' ga S) W' (Arv.set A q1 S1 q3 H1 G1 (rfl) W' i hi hl))
theorem Pos.stF (P : Pos p l e R s m args below meth c code Z EL wl hS own vm0 T locs cells slots h) {a : Addr} {k : ClassId} {z j : Int32} {x : UInt32} {vs : List Value} {d : Value} {i : Nat} (V : Arv Z h a k .float z vs d) (hj : ¬ j < 0) (hi : j.toNatClampNeg = i) (hl : i < vs.length) (hz : z.toNatClampNeg = vs.length) (ga : a ∈ wl ∨ hS.size ≤ a) (S : Safe Z EL vm0 h a) (hd : decode code pc = .ok (.fastore, 1)) (hp : pc + 1 = pc1) (K : ∀ (T' : State) (h' : Heap), Pos p l e R s m args below meth c code Z EL wl hS own vm0 T' (locs ++ [⟨a, j.toNatClampNeg⟩]) cells slots h' → Wr h h' a j.toNatClampNeg (.float x) → Arv Z h' a k .float z (vs.set i (.float x)) d → Go p.tables e below G (T'.setTop (mkF m pc1 ls st))) : Go p.tables e below G (T.setTop (mkF m pc ls (.float x :: .int j :: .ref a :: st))) := by
  subst hp
  obtain ⟨cl, A, q1, S1, q3, H1, G1⟩ := V
  obtain ⟨T', h', X', e', W', stp⟩ := RoadKit.stF P.1 P.q.2.1 P.hz P.heap A (j := j) (x := x) (fun y => y.elim hj (fun y => by rw [S1] at y; omega)) (g := mkF m pc ls (.float x :: .int j :: .ref a :: st)) rfl rfl (hb P.q.2.2 hd)
  exact Go.via stp (K T' h' (P.wrote X' e' W' ga S) W' (Arv.set A q1 S1 q3 H1 G1 (rfl) W' i hi hl))
theorem Pos.ldC (P : Pos p l e R s m args below meth c code Z EL wl hS own vm0 T locs cells slots h) {a : Addr} {k : ClassId} {z j : Int32} {vs : List Value} {d v : Value} (V : Arv Z h a k .char z vs d) (hj : ¬ j < 0) (hz : j.toNatClampNeg < z.toNatClampNeg) (hv : vs.getD j.toNatClampNeg d = v) (hd : decode code pc = .ok (.caload, 1)) (hp : pc + 1 = pc1) (K : Go p.tables e below G (T.setTop (mkF m pc1 ls (v :: st)))) : Go p.tables e below G (T.setTop (mkF m pc ls (.int j :: .ref a :: st))) := by
  subst hp
  obtain ⟨cl, A, q1, S1, q3, H1, G1⟩ := V
  exact Go.via (fun t k => P.1.caload P.q.2.1 (j := j) (v := v) (by rw [P.heap]; exact A.1) (State.isArrayOf_alike P.hz.alike A.2.1) A.2.2 (fun y => y.elim hj (fun y => by rw [S1] at y; omega)) (by rw [← hv]; exact H1 _ (by rw [S1]; exact hz)) (g := mkF m pc ls (.int j :: .ref a :: st)) rfl rfl (hb P.q.2.2 hd) t k) K
theorem Pos.ldB (P : Pos p l e R s m args below meth c code Z EL wl hS own vm0 T locs cells slots h) {a : Addr} {k : ClassId} {z j : Int32} {vs : List Value} {d v : Value} (V : Arv Z h a k .byte z vs d) (hj : ¬ j < 0) (hz : j.toNatClampNeg < z.toNatClampNeg) (hv : vs.getD j.toNatClampNeg d = v) (hd : decode code pc = .ok (.baload, 1)) (hp : pc + 1 = pc1) (K : Go p.tables e below G (T.setTop (mkF m pc1 ls (v :: st)))) : Go p.tables e below G (T.setTop (mkF m pc ls (.int j :: .ref a :: st))) := by
  subst hp
  obtain ⟨cl, A, q1, S1, q3, H1, G1⟩ := V
  exact Go.via (fun t k => P.1.baloadBytes P.q.2.1 (j := j) (v := v) (by rw [P.heap]; exact A.1) (State.isArrayOf_alike P.hz.alike A.2.1) A.2.2 (fun y => y.elim hj (fun y => by rw [S1] at y; omega)) (by rw [← hv]; exact H1 _ (by rw [S1]; exact hz)) (g := mkF m pc ls (.int j :: .ref a :: st)) rfl rfl (hb P.q.2.2 hd) t k) K
theorem Pos.ldZ (P : Pos p l e R s m args below meth c code Z EL wl hS own vm0 T locs cells slots h) {a : Addr} {k : ClassId} {z j : Int32} {vs : List Value} {d v : Value} (V : Arv Z h a k .boolean z vs d) (hj : ¬ j < 0) (hz : j.toNatClampNeg < z.toNatClampNeg) (hv : vs.getD j.toNatClampNeg d = v) (hd : decode code pc = .ok (.baload, 1)) (hp : pc + 1 = pc1) (K : Go p.tables e below G (T.setTop (mkF m pc1 ls (v :: st)))) : Go p.tables e below G (T.setTop (mkF m pc ls (.int j :: .ref a :: st))) := by
  subst hp
  obtain ⟨cl, A, q1, S1, q3, H1, G1⟩ := V
  exact Go.via (fun t k => P.1.baloadBooleans P.q.2.1 (j := j) (v := v) (by rw [P.heap]; exact A.1) (State.isArrayOf_alike P.hz.alike A.2.1) A.2.2 (fun y => y.elim hj (fun y => by rw [S1] at y; omega)) (by rw [← hv]; exact H1 _ (by rw [S1]; exact hz)) (g := mkF m pc ls (.int j :: .ref a :: st)) rfl rfl (hb P.q.2.2 hd) t k) K
theorem Pos.ldI (P : Pos p l e R s m args below meth c code Z EL wl hS own vm0 T locs cells slots h) {a : Addr} {k : ClassId} {z j : Int32} {vs : List Value} {d v : Value} (V : Arv Z h a k .int z vs d) (hj : ¬ j < 0) (hz : j.toNatClampNeg < z.toNatClampNeg) (hv : vs.getD j.toNatClampNeg d = v) (hd : decode code pc = .ok (.iaload, 1)) (hp : pc + 1 = pc1) (K : Go p.tables e below G (T.setTop (mkF m pc1 ls (v :: st)))) : Go p.tables e below G (T.setTop (mkF m pc ls (.int j :: .ref a :: st))) := by
  subst hp
  obtain ⟨cl, A, q1, S1, q3, H1, G1⟩ := V
  exact Go.via (fun t k => P.1.iaload P.q.2.1 (j := j) (v := v) (by rw [P.heap]; exact A.1) (State.isArrayOf_alike P.hz.alike A.2.1) A.2.2 (fun y => y.elim hj (fun y => by rw [S1] at y; omega)) (by rw [← hv]; exact H1 _ (by rw [S1]; exact hz)) (g := mkF m pc ls (.int j :: .ref a :: st)) rfl rfl (hb P.q.2.2 hd) t k) K
theorem Pos.ldJ (P : Pos p l e R s m args below meth c code Z EL wl hS own vm0 T locs cells slots h) {a : Addr} {k : ClassId} {z j : Int32} {vs : List Value} {d v : Value} (V : Arv Z h a k .long z vs d) (hj : ¬ j < 0) (hz : j.toNatClampNeg < z.toNatClampNeg) (hv : vs.getD j.toNatClampNeg d = v) (hd : decode code pc = .ok (.laload, 1)) (hp : pc + 1 = pc1) (K : Go p.tables e below G (T.setTop (mkF m pc1 ls (v :: st)))) : Go p.tables e below G (T.setTop (mkF m pc ls (.int j :: .ref a :: st))) := by
  subst hp
  obtain ⟨cl, A, q1, S1, q3, H1, G1⟩ := V
  exact Go.via (fun t k => P.1.laload P.q.2.1 (j := j) (v := v) (by rw [P.heap]; exact A.1) (State.isArrayOf_alike P.hz.alike A.2.1) A.2.2 (fun y => y.elim hj (fun y => by rw [S1] at y; omega)) (by rw [← hv]; exact H1 _ (by rw [S1]; exact hz)) (g := mkF m pc ls (.int j :: .ref a :: st)) rfl rfl (hb P.q.2.2 hd) t k) K
theorem Pos.ldD (P : Pos p l e R s m args below meth c code Z EL wl hS own vm0 T locs cells slots h) {a : Addr} {k : ClassId} {z j : Int32} {vs : List Value} {d v : Value} (V : Arv Z h a k .double z vs d) (hj : ¬ j < 0) (hz : j.toNatClampNeg < z.toNatClampNeg) (hv : vs.getD j.toNatClampNeg d = v) (hd : decode code pc = .ok (.daload, 1)) (hp : pc + 1 = pc1) (K : Go p.tables e below G (T.setTop (mkF m pc1 ls (v :: st)))) : Go p.tables e below G (T.setTop (mkF m pc ls (.int j :: .ref a :: st))) := by
  subst hp
  obtain ⟨cl, A, q1, S1, q3, H1, G1⟩ := V
  exact Go.via (fun t k => P.1.daload P.q.2.1 (j := j) (v := v) (by rw [P.heap]; exact A.1) (State.isArrayOf_alike P.hz.alike A.2.1) A.2.2 (fun y => y.elim hj (fun y => by rw [S1] at y; omega)) (by rw [← hv]; exact H1 _ (by rw [S1]; exact hz)) (g := mkF m pc ls (.int j :: .ref a :: st)) rfl rfl (hb P.q.2.2 hd) t k) K
theorem Pos.ldF (P : Pos p l e R s m args below meth c code Z EL wl hS own vm0 T locs cells slots h) {a : Addr} {k : ClassId} {z j : Int32} {vs : List Value} {d v : Value} (V : Arv Z h a k .float z vs d) (hj : ¬ j < 0) (hz : j.toNatClampNeg < z.toNatClampNeg) (hv : vs.getD j.toNatClampNeg d = v) (hd : decode code pc = .ok (.faload, 1)) (hp : pc + 1 = pc1) (K : Go p.tables e below G (T.setTop (mkF m pc1 ls (v :: st)))) : Go p.tables e below G (T.setTop (mkF m pc ls (.int j :: .ref a :: st))) := by
  subst hp
  obtain ⟨cl, A, q1, S1, q3, H1, G1⟩ := V
  exact Go.via (fun t k => P.1.faload P.q.2.1 (j := j) (v := v) (by rw [P.heap]; exact A.1) (State.isArrayOf_alike P.hz.alike A.2.1) A.2.2 (fun y => y.elim hj (fun y => by rw [S1] at y; omega)) (by rw [← hv]; exact H1 _ (by rw [S1]; exact hz)) (g := mkF m pc ls (.int j :: .ref a :: st)) rfl rfl (hb P.q.2.2 hd) t k) K
theorem Pos.len (P : Pos p l e R s m args below meth c code Z EL wl hS own vm0 T locs cells slots h) {a : Addr} {k : ClassId} {ty : FieldType} {z : Int32} {vs : List Value} {d : Value} (V : Arv Z h a k ty z vs d) (hd : decode code pc = .ok (.arraylength, 1)) (hp : pc + 1 = pc1) (K : Go p.tables e below G (T.setTop (mkF m pc1 ls (.int z :: st)))) : Go p.tables e below G (T.setTop (mkF m pc ls (.ref a :: st))) := by
  subst hp
  obtain ⟨cl, A, q1, S1, q3, H1, G1⟩ := V
  rw [← len_of S1 q3] at K
  exact Go.via (fun t k => P.1.arraylength P.q.2.1 (cell := cl) (by rw [P.heap]; exact A.1) (State.isArrayOf_alike P.hz.alike A.2.1) (g := mkF m pc ls (.ref a :: st)) rfl (rest := st) rfl (hb P.q.2.2 hd) t k) K
theorem Pos.initO (P : Pos p l e R s m args below meth c code Z EL wl hS own vm0 T locs cells slots h) {idx : Nat} {a : Addr} {W : Nat} (w1 : (Cond.methodLink own idx Lib.objectInit).before a0 Z = true) (w2 : (Cond.instanceMethod Lib.objectInit).before a0 Z = true) (w3 : (Cond.code Lib.objectInit ⟨#[0xb1]⟩ 1 none).before a0 Z = true) (hsize : ls.size = c.maxLocals) (hf : 1 ≤ R.frames) (hW : (st.map fun v => v.category).sum ≤ W) (hl : W + 12 ≤ R.locals) (hd : decode code pc = .ok (.invokespecial idx, 3)) (hp : pc + 3 = pc1) (K : ∀ (T' : State), Pos p l e R s m args below meth c code Z EL wl hS own vm0 T' locs cells slots h → Go p.tables e below G (T'.setTop (mkF m pc1 ls st))) : Go p.tables e below G (T.setTop (mkF m pc ls (.ref a :: st))) := by
  subst hp
  obtain ⟨T', X', e', stp⟩ := RoadKit.initO P.1 P.q.2.1 P.hz P.2.2.2.2.1 w1 w2 w3 P.heap (g := mkF m pc ls (.ref a :: st)) rfl hsize rfl (hb P.q.2.2 hd) hf (W := W) (by show 2 * 0 + _ ≤ _; omega) hl
  exact Go.via stp (K T' (P.same X' e'))
theorem Pos.castY (P : Pos p l e R s m args below meth c code Z EL wl hS own vm0 T locs cells slots h) {C : String} {index : Nat} {a : Addr} (w : (Cond.classLink own index C).before a0 Z = true) (F : Ins Z h a C true) (hd : decode code pc = .ok (.checkcast index, 3)) (hp : pc + 3 = pc1) (K : ∀ (T' : State), Pos p l e R s m args below meth c code Z EL wl hS own vm0 T' locs cells slots h → Go p.tables e below G (T'.setTop (mkF m pc1 ls (.ref a :: st)))) : Go p.tables e below G (T.setTop (mkF m pc ls (.ref a :: st))) := by
  subst hp
  obtain ⟨T', X', e', stp⟩ := RoadKit.castY P.1 P.q.2.1 P.hz P.2.2.2.2.1 w P.heap F (g := mkF m pc ls (.ref a :: st)) rfl rfl (hb P.q.2.2 hd)
  exact Go.via stp (K T' (P.same X' e'))
theorem Pos.instY (P : Pos p l e R s m args below meth c code Z EL wl hS own vm0 T locs cells slots h) {C : String} {index : Nat} {a : Addr} (w : (Cond.classLink own index C).before a0 Z = true) (F : Ins Z h a C true) (hd : decode code pc = .ok (.instanceof index, 3)) (hp : pc + 3 = pc1) (K : ∀ (T' : State), Pos p l e R s m args below meth c code Z EL wl hS own vm0 T' locs cells slots h → Go p.tables e below G (T'.setTop (mkF m pc1 ls (.int 1 :: st)))) : Go p.tables e below G (T.setTop (mkF m pc ls (.ref a :: st))) := by
  subst hp
  obtain ⟨T', X', e', stp⟩ := RoadKit.instY P.1 P.q.2.1 P.hz P.2.2.2.2.1 w P.heap F (g := mkF m pc ls (.ref a :: st)) rfl rfl (hb P.q.2.2 hd)
  exact Go.via stp (K T' (P.same X' e'))
theorem Pos.instNull (P : Pos p l e R s m args below meth c code Z EL wl hS own vm0 T locs cells slots h) {index : Nat} (hd : decode code pc = .ok (.instanceof index, 3)) (hp : pc + 3 = pc1) (K : Go p.tables e below G (T.setTop (mkF m pc1 ls (.int 0 :: st)))) : Go p.tables e below G (T.setTop (mkF m pc ls (.null :: st))) := by
  subst hp; exact Go.via (P.1.instanceofNull P.q.2.1 (g := mkF m pc ls (.null :: st)) rfl rfl (hb P.q.2.2 hd)) K
theorem Pos.castNull (P : Pos p l e R s m args below meth c code Z EL wl hS own vm0 T locs cells slots h) {index : Nat} (hd : decode code pc = .ok (.checkcast index, 3)) (hp : pc + 3 = pc1) (K : Go p.tables e below G (T.setTop (mkF m pc1 ls (.null :: st)))) : Go p.tables e below G (T.setTop (mkF m pc ls (.null :: st))) := by
  subst hp; exact Go.via (P.1.checkcastNull P.q.2.1 (g := mkF m pc ls (.null :: st)) rfl rfl (hb P.q.2.2 hd)) K
theorem Pos.instNo (P : Pos p l e R s m args below meth c code Z EL wl hS own vm0 T locs cells slots h) {C D : String} {index : Nat} {a : Addr} (w : (Cond.classLink own index C).before a0 Z = true) (E : Exa Z h a D) (F : ∃ c t, Z.vm.findClass D = some c ∧ Z.vm.findClass C = some t ∧ Z.vm.assignable c t = false) (hd : decode code pc = .ok (.instanceof index, 3)) (hp : pc + 3 = pc1) (K : ∀ (T' : State), Pos p l e R s m args below meth c code Z EL wl hS own vm0 T' locs cells slots h → Go p.tables e below G (T'.setTop (mkF m pc1 ls (.int 0 :: st)))) : Go p.tables e below G (T.setTop (mkF m pc ls (.ref a :: st))) := by
  subst hp
  obtain ⟨T', X', e', stp⟩ := RoadKit.instNo P.1 P.q.2.1 P.hz P.2.2.2.2.1 w P.heap E F (g := mkF m pc ls (.ref a :: st)) rfl rfl (hb P.q.2.2 hd)
  exact Go.via stp (K T' (P.same X' e'))
theorem Pos.exc1 (P : Pos p l e R s m args below meth c code Z EL wl hS own vm0 T locs cells slots h) (htr : l.stackTraces = true) {rc : String} {links : List Jvm.Free.Exc.Link} {ic n : Nat} (hok : Jvm.Free.Exc.linksOk 1 links = true) (w1 : (Cond.methodLink own ic (Jvm.Free.Exc.ctor 1 (Jvm.Free.Exc.headName links))).before a0 Z = true) (w2 : (Cond.instanceMethod (Jvm.Free.Exc.ctor 1 (Jvm.Free.Exc.headName links))).before a0 Z = true) (wT : (Jvm.Free.Exc.chainTab 1 rc links).before a0 Z = true) (wi : (Cond.instantiable rc n).before a0 Z = true) (r : ∀ d ∈ twoRefs, d.before a0 Z = true)
    (hT0 : ThS Z hS) (hT : ThS Z h) (hTK : vm0.MethodsKnown) (hBelow : vm0.FramesKnown below) {a : Addr} (E : Exa Z h a rc) (N : Unt h a) (B : Fld Z h a Bundle.tN "backtrace" Jvm.Free.Exc.obD .null) (B2 : Fld Z h a Bundle.tN "detailMessage" Jvm.Free.Exc.msgD .null) {msg : Value} (hmsg : msg.isRef = true) (ga : a ∈ wl ∨ hS.size ≤ a) (S : Safe Z EL vm0 h a)
    (hsize : ls.size = c.maxLocals) {W : Nat} (hW : (st.map fun v => v.category).sum ≤ W) (hf : 4 + links.length ≤ R.frames) (hlo : W + (56 + 14 * links.length) ≤ R.locals) (hc : cells + 1 ≤ R.cells) (hsl : slots + 2752 ≤ R.slots) (hd : decode code pc = .ok (.invokespecial ic, 3)) (hp : pc + 3 = pc1)
    (K : ∀ (T' : State) (h' : Heap), Pos p l e R s m args below meth c code Z EL wl hS own vm0 T' (locs ++ sixLocs Z a) (cells + 1) (slots + 2752) h' → Kp Z h h' a → Exa Z h' a rc → Unt h' a → Fld Z h' a Bundle.tN "detailMessage" Jvm.Free.Exc.msgD msg → ThS Z h' → Go p.tables e below G (T'.setTop (mkF m pc1 ls st))) : Go p.tables e below G (T.setTop (mkF m pc ls (msg :: .ref a :: st))) := by
  subst hp
  obtain ⟨T', h', X', e', K', E', N', M', -, hT', stp⟩ := RoadKit.excL1 P.1 P.q.2.1 htr P.hz P.2.2.2.2.1 hok w1 w2 wT wi r (by have q := P.2.2.2.2.2.2.1; show ThS Z s.heap; rw [q]; exact hT0) hT hTK hBelow P.heap E N B B2 hmsg (g := mkF m pc ls (msg :: .ref a :: st)) rfl hsize rfl (hb P.q.2.2 hd) hf (by show 2 * 0 + _ + _ ≤ _; omega) hc hsl
  refine Go.via stp (K T' h' ?_ K' E' N' M' hT')
  have C' : CHr Z EL vm0 h vm0 h' := CHr.keep (keep_of_kp K') (sfS S sf0) P.chv
  obtain ⟨X, eT, hsi, hZ, hown, N, n1, C, hx, hby⟩ := P; obtain ⟨k0, q1, q2⟩ := hsi
  exact ⟨X', e', ⟨k0, q1, Nat.le_trans q2 C'.2.1⟩, hZ, hown, N.app (fun y hy => by obtain ⟨nd, -, rfl⟩ := List.mem_map.mp hy; exact ga), n1, C.trans C', hx, hby⟩
theorem Pos.alS (P : Pos p l e R s m args below meth c code Z EL wl hS own vm0 T locs cells slots h) : s.vm.Alike vm0 := by obtain ⟨k0, q1, q2⟩ := P.2.2.1; exact q1.1.alike
theorem Pos.ldcI (P : Pos p l e R s m args below meth c code Z EL wl hS own vm0 T locs cells slots h) {index : Nat} {v : Int32} (w : (Cond.constant own index v).before a0 Z = true) (hd : decode code pc = .ok (.ldc index, 2)) (hp : pc + 2 = pc1) (K : Go p.tables e below G (T.setTop (mkF m pc1 ls (.int v :: st)))) : Go p.tables e below G (T.setTop (mkF m pc ls st)) := by
  subst hp; exact Go.via (P.1.ldcInt P.q.2.1 P.2.2.2.2.1 (mvT P.hz w) (g := mkF m pc ls st) rfl (hb P.q.2.2 hd)) K
theorem Pos.ldc2J (P : Pos p l e R s m args below meth c code Z EL wl hS own vm0 T locs cells slots h) {index : Nat} {v : Int64} (w : (Cond.constantLong own index v).before a0 Z = true) (hd : decode code pc = .ok (.ldc2_w index, 3)) (hp : pc + 3 = pc1) (K : Go p.tables e below G (T.setTop (mkF m pc1 ls (.long v :: st)))) : Go p.tables e below G (T.setTop (mkF m pc ls st)) := by
  subst hp; exact Go.via (P.1.ldc2Long P.q.2.1 P.2.2.2.2.1 (mvT P.hz w) (g := mkF m pc ls st) rfl (hb P.q.2.2 hd)) K
theorem Pos.ldcF (P : Pos p l e R s m args below meth c code Z EL wl hS own vm0 T locs cells slots h) {index : Nat} {v : UInt32} (w : (Cond.constantFloat own index v).before a0 Z = true) (hd : decode code pc = .ok (.ldc index, 2)) (hp : pc + 2 = pc1) (K : Go p.tables e below G (T.setTop (mkF m pc1 ls (.float v :: st)))) : Go p.tables e below G (T.setTop (mkF m pc ls st)) := by
  subst hp; exact Go.via (P.1.ldcFloatC P.q.2.1 P.2.2.2.2.1 (mvT P.hz w) (g := mkF m pc ls st) rfl (hb P.q.2.2 hd)) K
theorem Pos.ldc2D (P : Pos p l e R s m args below meth c code Z EL wl hS own vm0 T locs cells slots h) {index : Nat} {v : UInt64} (w : (Cond.constantDouble own index v).before a0 Z = true) (hd : decode code pc = .ok (.ldc2_w index, 3)) (hp : pc + 3 = pc1) (K : Go p.tables e below G (T.setTop (mkF m pc1 ls (.double v :: st)))) : Go p.tables e below G (T.setTop (mkF m pc ls st)) := by
  subst hp; exact Go.via (P.1.ldc2DoubleC P.q.2.1 P.2.2.2.2.1 (mvT P.hz w) (g := mkF m pc ls st) rfl (hb P.q.2.2 hd)) K
theorem Pos.ldcO (P : Pos p l e R s m args below meth c code Z EL wl hS own vm0 T locs cells slots h) {index : Nat} {text : String} {n : Nat} (w : (Cond.stringLink own index text).before a0 Z = true) (wS : ∀ a ∈ Bundle.stringAtoms, a.before a0 Z = true) (hEL : EW Z a0 EL) (hn : 4 * text.toList.length ≤ n) (hbig : n ≤ 536870912) (hc : cells + 2 ≤ R.cells) (hl : slots + (n + 4) ≤ R.slots) (hd : decode code pc = .ok (.ldc index, 2)) (hp : pc + 2 = pc1)
    (K : ∀ (a : Addr) (T' : State) (h' : Heap), Pos p l e R s m args below meth c code Z EL wl hS own T'.vm T' locs (cells + 2) (slots + (n + 4)) h' → Ext h h' → CHr Z EL vm0 h T'.vm h' → Lit (s.setVm T'.vm) own index a → Go p.tables e below G (T'.setTop (mkF m pc1 ls (.ref a :: st)))) : Go p.tables e below G (T.setTop (mkF m pc ls st)) := by
  subst hp
  obtain ⟨X, eT, hsi, hZ, hown, N, n1, C, hx, hby⟩ := P
  obtain ⟨k0, q1, q2⟩ := hsi
  obtain ⟨a, T', h', k1, X', e', E', hS2, hk2, hW, hf, hC, hL, stp⟩ := RoadKit.ldcOH X hx hZ hown w wS eT q1 q2 hEL C.1 (g := mkF m pc ls st) rfl (hb hby hd) hn hbig hc hl
  exact Go.via stp (K a T' h' ⟨X', e', ⟨k1, hS2, hk2⟩, hW, hf, N, n1, C.trans hC, hx, hby⟩ E' hC hL)
theorem Pos.ldcR (P : Pos p l e R s m args below meth c code Z EL wl hS own vm0 T locs cells slots h) {index : Nat} {text : String} {n : Nat} (w : (Cond.stringLink own index text).before a0 Z = true) (wS : ∀ a ∈ Bundle.stringAtoms, a.before a0 Z = true) (hEL : EW Z a0 EL) (hmem : (own, index) ∈ EL) {vs : List Value} {z : Int32} (ht : (∀ c ∈ text.toList, c.toNat < 256) ∧ text.toList.map (fun c => Value.int (Jvm.Lit.byteI c.toNat.toUInt16)) = vs) (hz : ¬ z < 0) (hlz : z.toNatClampNeg = vs.length) (hn : 4 * text.toList.length ≤ n) (hbig : n ≤ 536870912) (hc : cells + 2 ≤ R.cells) (hl : slots + (n + 4) ≤ R.slots) (hd : decode code pc = .ok (.ldc index, 2)) (hp : pc + 2 = pc1)
    (K : ∀ (a : Addr) (T' : State) (h' : Heap) (b : Addr) (k : ClassId), Pos p l e R s m args below meth c code Z EL wl hS own T'.vm T' locs (cells + 2) (slots + (n + 4)) h' → Ext h h' → CHr Z EL vm0 h T'.vm h' → Exa Z h' a "java/lang/String" → Fld Z h' a "java/lang/String" "coder" "B" (.int 0) → Fld Z h' a "java/lang/String" "value" "[B" (.ref b) → Arv Z h' b k .byte z vs (.int 0) → (∀ x, Safe Z EL T'.vm h' x → x ≠ a ∧ x ≠ b) → Lit (s.setVm T'.vm) own index a → Go p.tables e below G (T'.setTop (mkF m pc1 ls (.ref a :: st)))) : Go p.tables e below G (T.setTop (mkF m pc ls st)) := by
  subst hp
  obtain ⟨X, eT, hsi, hZ, hown, N, n1, C, hx, hby⟩ := P
  obtain ⟨k0, q1, q2⟩ := hsi
  obtain ⟨a, T', h', k1, b, k, X', e', E', hS2, hk2, hW, hf, y1, y2, y3, y4, -, -, hC, hL, hne, stp⟩ := RoadKit.ldcCH X hx hZ hown w wS eT q1 q2 hEL hmem C.1 ht hz hlz (g := mkF m pc ls st) rfl (hb hby hd) hn hbig hc hl
  exact Go.via stp (K a T' h' b k ⟨X', e', ⟨k1, hS2, hk2⟩, hW, hf, N, n1, C.trans hC, hx, hby⟩ E' hC y1 y2 y3 y4 hne hL)
theorem Pos.callS (P : Pos p l e R s m args below meth c code Z EL wl hS own vm0 T locs cells slots h) {index : Nat} {y : MethodName} {bytes : ByteArray} {maxL : Nat} {ret : Option FieldType} {as' : Array Value} {rc rs W : Nat} {Q : Option Value → Heap → List Loc → Prop} {argsL st0 : List Value} (w1 : (Cond.methodLink own index y).before a0 Z = true) (w2 : (Cond.static y).before a0 Z = true) (w3 : (Cond.initialized y.cls).before a0 Z = true) (w4 : (Cond.code y bytes maxL ret).before a0 Z = true) (hy : y.cls ≠ "java/lang/invoke/MethodHandle" ∧ y.cls ≠ "java/lang/invoke/VarHandle") (hK : Back l R p e below (s.setVm vm0) args y 3 W (fun A a => a = as' ∧ A.U.heap = h ∧ A.cells + rc ≤ R.cells ∧ A.slots + rs ≤ R.slots) (fun A _ v B => ∃ L, Q v B.U.heap L ∧ B.locs = A.locs ++ L ∧ B.cells = A.cells + rc ∧ B.slots = A.slots + rs)) (hlen : ∀ sig, parseMethodDescriptor y.desc = some sig → argsL.length = sig.parameters.length) (hst : st = argsL.reverse ++ st0) (has : argsL.toArray = as') (hW : (st0.map fun v => v.category).sum ≤ W) (hsize : ls.size = c.maxLocals) (hc : cells + rc ≤ R.cells) (hs : slots + rs ≤ R.slots) (hF : ∀ v h' L, Q v h' L → Frw wl hS.size L ∧ CHr Z EL vm0 h vm0 h') (hd : decode code pc = .ok (.invokestatic index, 3)) (hp : pc + 3 = pc1)
    (K : ∀ (v : Option Value) (T' : State) (h' : Heap) (L : List Loc), Q v h' L → Pos p l e R s m args below meth c code Z EL wl hS own vm0 T' (locs ++ L) (cells + rc) (slots + rs) h' → Go p.tables e below G (T'.setTop (mkF m pc1 ls (v.toList ++ st0)))) : Go p.tables e below G (T.setTop (mkF m pc ls st)) := by
  subst hp
  obtain ⟨v, vm₁, ⟨U, Lx, cx, sx⟩, -, X', ⟨L, hQ, l1, l2, l3⟩, stp⟩ := Jvm.LawKit.callS P.1 P.q.2.1 P.2.2.2.2.1 (mvT P.hz w1) (mvT P.hz w2) (mvT P.hz w3) (mvT P.hz w4) hy hK (g := mkF m pc ls st) rfl hsize (argsL := argsL) (rest := st0) hlen hst (by show 2 * 0 + _ ≤ _; omega) (hb P.q.2.2 hd) (fun _ _ => ⟨has, P.heap, hc, hs⟩)
  dsimp only [Pt.U, Pt.locs, Pt.cells, Pt.slots] at *
  subst l1 l2 l3
  exact Go.via stp (K v U _ L hQ (P.came X' (hF _ _ _ hQ).1 (hF _ _ _ hQ).2))
theorem Pos.callN (P : Pos p l e R s m args below meth c code Z EL wl hS own vm0 T locs cells slots h) {index : Nat} {y : MethodName} {bytes : ByteArray} {maxL : Nat} {x : Addr} {as' : Array Value} {rc rs W : Nat} {Q : Option Value → Heap → List Loc → Prop} {argsL st0 : List Value} (hy1 : y.name = "<init>") (w1 : (Cond.methodLink own index y).before a0 Z = true) (w2 : (Cond.instanceMethod y).before a0 Z = true) (w4 : (Cond.code y bytes maxL none).before a0 Z = true) (hy : y.cls ≠ "java/lang/invoke/MethodHandle" ∧ y.cls ≠ "java/lang/invoke/VarHandle") (hK : Back l R p e below (s.setVm vm0) args y 3 W (fun A a => a = as' ∧ A.U.heap = h ∧ A.cells + rc ≤ R.cells ∧ A.slots + rs ≤ R.slots) (fun A _ v B => ∃ L, Q v B.U.heap L ∧ B.locs = A.locs ++ L ∧ B.cells = A.cells + rc ∧ B.slots = A.slots + rs)) (hlen : ∀ sig, parseMethodDescriptor y.desc = some sig → argsL.length = sig.parameters.length) (hst : st = argsL.reverse ++ .ref x :: st0) (has : (.ref x :: argsL).toArray = as') (hW : (st0.map fun v => v.category).sum ≤ W) (hsize : ls.size = c.maxLocals) (hc : cells + rc ≤ R.cells) (hs : slots + rs ≤ R.slots) (hF : ∀ v h' L, Q v h' L → Frw wl hS.size L ∧ CHr Z EL vm0 h vm0 h') (hd : decode code pc = .ok (.invokespecial index, 3)) (hp : pc + 3 = pc1)
    (K : ∀ (v : Option Value) (T' : State) (h' : Heap) (L : List Loc), Q v h' L → Pos p l e R s m args below meth c code Z EL wl hS own vm0 T' (locs ++ L) (cells + rc) (slots + rs) h' → Go p.tables e below G (T'.setTop (mkF m pc1 ls (v.toList ++ st0)))) : Go p.tables e below G (T.setTop (mkF m pc ls st)) := by
  subst hp
  obtain ⟨v, vm₁, ⟨U, Lx, cx, sx⟩, -, X', ⟨L, hQ, l1, l2, l3⟩, stp⟩ := Stand.specialBack P.1 P.q.2.1 hy1 P.2.2.2.2.1 (mvT P.hz w1) (mvT P.hz w2) (mvT P.hz w4) hy hK (g := mkF m pc ls st) rfl hsize (Steps.refl _) (a := x) (argsL := argsL) (rest := st0) hlen hst (by show 2 * 0 + _ ≤ _; omega) (hb P.q.2.2 hd) (fun _ _ => ⟨has, P.heap, hc, hs⟩)
  dsimp only [Pt.U, Pt.locs, Pt.cells, Pt.slots] at *
  subst l1 l2 l3
  exact Go.tr stp (K v U _ L hQ (P.came X' (hF _ _ _ hQ).1 (hF _ _ _ hQ).2))
theorem Pos.callV (P : Pos p l e R s m args below meth c code Z EL wl hS own vm0 T locs cells slots h) {index : Nat} {y z : MethodName} {x : Addr} {C : String} {as' : Array Value} {rc rs W : Nat} {Q : Option Value → Heap → List Loc → Prop} {argsL st0 : List Value} (E : Exa Z h x C) (w1 : (Cond.methodLink own index y).before a0 Z = true) (w2 : (Cond.declares y).before a0 Z = true) (w3 : (Cond.selects C y z).before a0 Z = true) (w4 : (Cond.instanceMethod z).before a0 Z = true) (nf : NotFace (s.setVm vm0) y) (hy : y.cls ≠ "java/lang/invoke/MethodHandle" ∧ y.cls ≠ "java/lang/invoke/VarHandle") (hK : Back l R p e below (s.setVm vm0) args z 3 W (fun A a => a = as' ∧ A.U.heap = h ∧ A.cells + rc ≤ R.cells ∧ A.slots + rs ≤ R.slots) (fun A _ v B => ∃ L, Q v B.U.heap L ∧ B.locs = A.locs ++ L ∧ B.cells = A.cells + rc ∧ B.slots = A.slots + rs)) (hlen : ∀ sig, parseMethodDescriptor y.desc = some sig → argsL.length = sig.parameters.length) (hst : st = argsL.reverse ++ .ref x :: st0) (has : (.ref x :: argsL).toArray = as') (hW : (st0.map fun v => v.category).sum ≤ W) (hsize : ls.size = c.maxLocals) (hc : cells + rc ≤ R.cells) (hs : slots + rs ≤ R.slots) (hF : ∀ v h' L, Q v h' L → Frw wl hS.size L ∧ CHr Z EL vm0 h vm0 h') (hd : decode code pc = .ok (.invokevirtual index, 3)) (hp : pc + 3 = pc1)
    (K : ∀ (v : Option Value) (T' : State) (h' : Heap) (L : List Loc), Q v h' L → Pos p l e R s m args below meth c code Z EL wl hS own vm0 T' (locs ++ L) (cells + rc) (slots + rs) h' → Go p.tables e below G (T'.setTop (mkF m pc1 ls (v.toList ++ st0)))) : Go p.tables e below G (T.setTop (mkF m pc ls st)) := by
  subst hp
  obtain ⟨cq, kq, qa, qb, qc⟩ := isOf P.hz P.heap E
  obtain ⟨v, vm₁, ⟨U, Lx, cx, sx⟩, -, X', ⟨L, hQ, l1, l2, l3⟩, stp⟩ := Stand.virtualBack P.1 P.q.2.1 (y := y) (z := z) P.2.2.2.2.1 (mvT P.hz w1) (mvT P.hz w2) nf (mvT P.hz w3) (mvT P.hz w4) hy hK qa qc (g := mkF m pc ls st) rfl hsize (Steps.refl _) (argsL := argsL) (rest := st0) hlen hst (by show 2 * 0 + _ ≤ _; omega) (hb P.q.2.2 hd) (fun _ _ => ⟨has, P.heap, hc, hs⟩)
  dsimp only [Pt.U, Pt.locs, Pt.cells, Pt.slots] at *
  subst l1 l2 l3
  exact Go.tr stp (K v U _ L hQ (P.came X' (hF _ _ _ hQ).1 (hF _ _ _ hQ).2))
theorem Pos.callVU (P : Pos p l e R s m args below meth c code Z EL wl hS own vm0 T locs cells slots h) {index : Nat} {y z : MethodName} {x : Addr} {C owner : String} {as' : Array Value} {rc rs W : Nat} {Q : Option Value → Heap → List Loc → Prop} {argsL st0 : List Value} (E : Exa Z h x C) (w1 : (Cond.methodLink own index y).before a0 Z = true) (w2 : (Cond.sameMethod y.cls owner y.name y.desc).before a0 Z = true) (w5 : (Cond.declares ⟨owner, y.name, y.desc⟩).before a0 Z = true) (hy : owner ≠ "java/lang/invoke/MethodHandle" ∧ owner ≠ "java/lang/invoke/VarHandle") (w3 : (Cond.selects C y z).before a0 Z = true) (w4 : (Cond.instanceMethod z).before a0 Z = true) (hK : Back l R p e below (s.setVm vm0) args z 3 W (fun A a => a = as' ∧ A.U.heap = h ∧ A.cells + rc ≤ R.cells ∧ A.slots + rs ≤ R.slots) (fun A _ v B => ∃ L, Q v B.U.heap L ∧ B.locs = A.locs ++ L ∧ B.cells = A.cells + rc ∧ B.slots = A.slots + rs)) (hlen : ∀ sig, parseMethodDescriptor y.desc = some sig → argsL.length = sig.parameters.length) (hst : st = argsL.reverse ++ .ref x :: st0) (has : (.ref x :: argsL).toArray = as') (hW : (st0.map fun v => v.category).sum ≤ W) (hsize : ls.size = c.maxLocals) (hc : cells + rc ≤ R.cells) (hs : slots + rs ≤ R.slots) (hF : ∀ v h' L, Q v h' L → Frw wl hS.size L ∧ CHr Z EL vm0 h vm0 h') (hd : decode code pc = .ok (.invokevirtual index, 3)) (hp : pc + 3 = pc1)
    (K : ∀ (v : Option Value) (T' : State) (h' : Heap) (L : List Loc), Q v h' L → Pos p l e R s m args below meth c code Z EL wl hS own vm0 T' (locs ++ L) (cells + rc) (slots + rs) h' → Go p.tables e below G (T'.setTop (mkF m pc1 ls (v.toList ++ st0)))) : Go p.tables e below G (T.setTop (mkF m pc ls st)) := by
  subst hp
  obtain ⟨cq, kq, qa, qb, qc⟩ := isOf P.hz P.heap E
  obtain ⟨v, vm₁, ⟨U, Lx, cx, sx⟩, -, X', ⟨L, hQ, l1, l2, l3⟩, stp⟩ := Stand.virtualBackUp P.1 P.q.2.1 (x := y) (y := z) P.2.2.2.2.1 (mvT P.hz w1) (mvT P.hz w2) (mvT P.hz w5) hy (mvT P.hz w3) (mvT P.hz w4) hK qa qc (g := mkF m pc ls st) rfl hsize (Steps.refl _) (argsL := argsL) (rest := st0) hlen hst (by show 2 * 0 + _ ≤ _; omega) (hb P.q.2.2 hd) (fun _ _ => ⟨has, P.heap, hc, hs⟩)
  dsimp only [Pt.U, Pt.locs, Pt.cells, Pt.slots] at *
  subst l1 l2 l3
  exact Go.tr stp (K v U _ L hQ (P.came X' (hF _ _ _ hQ).1 (hF _ _ _ hQ).2))
theorem Pos.callI (P : Pos p l e R s m args below meth c code Z EL wl hS own vm0 T locs cells slots h) {index count : Nat} {xi y : MethodName} {x : Addr} {C : String} {as' : Array Value} {rc rs W : Nat} {Q : Option Value → Heap → List Loc → Prop} {argsL st0 : List Value} (E : Exa Z h x C) (w1 : (Cond.methodLink own index xi).before a0 Z = true) (w2 : (Cond.declares xi).before a0 Z = true) (w3 : (Cond.interfaceMethod xi.cls xi.cls xi.name xi.desc).before a0 Z = true) (h3 : ((Cond.interfaceMethod xi.cls xi.cls xi.name xi.desc).onTables && (Cond.interfaceMethod xi.cls xi.cls xi.name xi.desc).keepsFace) = true) (w4 : (Cond.selects C xi y).before a0 Z = true) (w5 : (Cond.instanceMethod y).before a0 Z = true) (w6 : (Cond.publicMethod y).before a0 Z = true) (w7 : (Cond.unhidden C xi.name xi.desc).before a0 Z = true) (w8 : (Cond.castable C xi.cls).before a0 Z = true) (hy : xi.cls ≠ "java/lang/invoke/MethodHandle" ∧ xi.cls ≠ "java/lang/invoke/VarHandle") (hK : Back l R p e below (s.setVm vm0) args y 5 W (fun A a => a = as' ∧ A.U.heap = h ∧ A.cells + rc ≤ R.cells ∧ A.slots + rs ≤ R.slots) (fun A _ v B => ∃ L, Q v B.U.heap L ∧ B.locs = A.locs ++ L ∧ B.cells = A.cells + rc ∧ B.slots = A.slots + rs)) (hlen : ∀ sig, parseMethodDescriptor xi.desc = some sig → argsL.length = sig.parameters.length) (hst : st = argsL.reverse ++ .ref x :: st0) (has : (.ref x :: argsL).toArray = as') (hW : (st0.map fun v => v.category).sum ≤ W) (hsize : ls.size = c.maxLocals) (hc : cells + rc ≤ R.cells) (hs : slots + rs ≤ R.slots) (hF : ∀ v h' L, Q v h' L → Frw wl hS.size L ∧ CHr Z EL vm0 h vm0 h') (hd : decode code pc = .ok (.invokeinterface index count, 5)) (hp : pc + 5 = pc1)
    (K : ∀ (v : Option Value) (T' : State) (h' : Heap) (L : List Loc), Q v h' L → Pos p l e R s m args below meth c code Z EL wl hS own vm0 T' (locs ++ L) (cells + rc) (slots + rs) h' → Go p.tables e below G (T'.setTop (mkF m pc1 ls (v.toList ++ st0)))) : Go p.tables e below G (T.setTop (mkF m pc ls st)) := by
  subst hp
  obtain ⟨cq, kq, qa, qb, qc⟩ := isOf P.hz P.heap E
  obtain ⟨v, vm₁, ⟨U, Lx, cx, sx⟩, -, X', ⟨L, hQ, l1, l2, l3⟩, stp⟩ := Stand.interfaceBack P.1 P.q.2.1 P.2.2.2.2.1 (mvT P.hz w1) (mvT P.hz w2) (mvT P.hz w3 h3) (mvT P.hz w4) (mvT P.hz w5) (mvT P.hz w6) (mvT P.hz w7) (mvT P.hz w8) hy hK qa qb qc (g := mkF m pc ls st) rfl hsize (Steps.refl _) (argsL := argsL) (rest := st0) hlen hst (by show 2 * 0 + _ ≤ _; omega) (hb P.q.2.2 hd) (fun _ _ => ⟨has, P.heap, hc, hs⟩)
  dsimp only [Pt.U, Pt.locs, Pt.cells, Pt.slots] at *
  subst l1 l2 l3
  exact Go.tr stp (K v U _ L hQ (P.came X' (hF _ _ _ hQ).1 (hF _ _ _ hQ).2))
theorem Pos.callSW (P : Pos p l e R s m args below meth c code Z EL wl hS own vm0 T locs cells slots h) {index : Nat} {y : MethodName} {bytes : ByteArray} {maxL : Nat} {ret : Option FieldType} {as' : Array Value} {rc rs W : Nat} {Q : Option Value → Heap → List Loc → Prop} {argsL st0 : List Value} (w1 : (Cond.methodLink own index y).before a0 Z = true) (w2 : (Cond.static y).before a0 Z = true) (w3 : (Cond.initialized y.cls).before a0 Z = true) (w4 : (Cond.code y bytes maxL ret).before a0 Z = true) (hy : y.cls ≠ "java/lang/invoke/MethodHandle" ∧ y.cls ≠ "java/lang/invoke/VarHandle") (hK : BackS l R p e below (s.setVm vm0) args y 3 W (fun A a => a = as' ∧ A.U.heap = h ∧ A.cells + rc ≤ R.cells ∧ A.slots + rs ≤ R.slots) (fun A _ v B => ∃ L, Q v B.U.heap L ∧ B.locs = A.locs ++ L ∧ B.cells = A.cells + rc ∧ B.slots = A.slots + rs ∧ CHr Z EL vm0 h B.U.vm B.U.heap)) (hlen : ∀ sig, parseMethodDescriptor y.desc = some sig → argsL.length = sig.parameters.length) (hst : st = argsL.reverse ++ st0) (has : argsL.toArray = as') (hW : (st0.map fun v => v.category).sum ≤ W) (hsize : ls.size = c.maxLocals) (hc : cells + rc ≤ R.cells) (hs : slots + rs ≤ R.slots) (hF : ∀ v h' L, Q v h' L → Frw wl hS.size L) (hd : decode code pc = .ok (.invokestatic index, 3)) (hp : pc + 3 = pc1)
    (K : ∀ (v : Option Value) (T' : State) (h' : Heap) (L : List Loc), Q v h' L → Pos p l e R s m args below meth c code Z EL wl hS own T'.vm T' (locs ++ L) (cells + rc) (slots + rs) h' → CHr Z EL vm0 h T'.vm h' → Go p.tables e below G (T'.setTop (mkF m pc1 ls (v.toList ++ st0)))) : Go p.tables e below G (T.setTop (mkF m pc ls st)) := by
  subst hp
  obtain ⟨v, vm₁, ⟨U, Lx, cx, sx⟩, -, X', hS', hgr, ⟨L, hQ, l1, l2, l3, hC⟩, stp⟩ := RoadKit.callSS P.1 P.q.2.1 P.2.2.2.2.1 (mvT P.hz w1) (mvT P.hz w2) (mvT P.hz w3) (mvT P.hz w4) hy hK (g := mkF m pc ls st) rfl hsize (argsL := argsL) (rest := st0) hlen hst (by show 2 * 0 + _ ≤ _; omega) (hb P.q.2.2 hd) (fun _ _ => ⟨has, P.heap, hc, hs⟩)
  dsimp only [Pt.U, Pt.locs, Pt.cells, Pt.slots] at *
  subst l1 l2 l3
  rw [P.heap] at hgr
  exact Go.tr stp (K v U _ L hQ (P.cameW X' hS' hgr (hF _ _ _ hQ) hC) hC)
theorem Pos.callNW (P : Pos p l e R s m args below meth c code Z EL wl hS own vm0 T locs cells slots h) {index : Nat} {y : MethodName} {bytes : ByteArray} {maxL : Nat} {x : Addr} {as' : Array Value} {rc rs W : Nat} {Q : Option Value → Heap → List Loc → Prop} {argsL st0 : List Value} (hy1 : y.name = "<init>") (w1 : (Cond.methodLink own index y).before a0 Z = true) (w2 : (Cond.instanceMethod y).before a0 Z = true) (w4 : (Cond.code y bytes maxL none).before a0 Z = true) (hy : y.cls ≠ "java/lang/invoke/MethodHandle" ∧ y.cls ≠ "java/lang/invoke/VarHandle") (hK : BackS l R p e below (s.setVm vm0) args y 3 W (fun A a => a = as' ∧ A.U.heap = h ∧ A.cells + rc ≤ R.cells ∧ A.slots + rs ≤ R.slots) (fun A _ v B => ∃ L, Q v B.U.heap L ∧ B.locs = A.locs ++ L ∧ B.cells = A.cells + rc ∧ B.slots = A.slots + rs ∧ CHr Z EL vm0 h B.U.vm B.U.heap)) (hlen : ∀ sig, parseMethodDescriptor y.desc = some sig → argsL.length = sig.parameters.length) (hst : st = argsL.reverse ++ .ref x :: st0) (has : (.ref x :: argsL).toArray = as') (hW : (st0.map fun v => v.category).sum ≤ W) (hsize : ls.size = c.maxLocals) (hc : cells + rc ≤ R.cells) (hs : slots + rs ≤ R.slots) (hF : ∀ v h' L, Q v h' L → Frw wl hS.size L) (hd : decode code pc = .ok (.invokespecial index, 3)) (hp : pc + 3 = pc1)
    (K : ∀ (v : Option Value) (T' : State) (h' : Heap) (L : List Loc), Q v h' L → Pos p l e R s m args below meth c code Z EL wl hS own T'.vm T' (locs ++ L) (cells + rc) (slots + rs) h' → CHr Z EL vm0 h T'.vm h' → Go p.tables e below G (T'.setTop (mkF m pc1 ls (v.toList ++ st0)))) : Go p.tables e below G (T.setTop (mkF m pc ls st)) := by
  subst hp
  obtain ⟨v, vm₁, ⟨U, Lx, cx, sx⟩, -, X', hS', hgr, ⟨L, hQ, l1, l2, l3, hC⟩, stp⟩ := Stand.specialBackS P.1 P.q.2.1 hy1 P.2.2.2.2.1 (mvT P.hz w1) (mvT P.hz w2) (mvT P.hz w4) hy hK (g := mkF m pc ls st) rfl hsize (Steps.refl _) (a := x) (argsL := argsL) (rest := st0) hlen hst (by show 2 * 0 + _ ≤ _; omega) (hb P.q.2.2 hd) (fun _ _ => ⟨has, P.heap, hc, hs⟩)
  dsimp only [Pt.U, Pt.locs, Pt.cells, Pt.slots] at *
  subst l1 l2 l3
  rw [P.heap] at hgr
  exact Go.tr stp (K v U _ L hQ (P.cameW X' hS' hgr (hF _ _ _ hQ) hC) hC)
theorem Pos.callVW (P : Pos p l e R s m args below meth c code Z EL wl hS own vm0 T locs cells slots h) {index : Nat} {y z : MethodName} {x : Addr} {C : String} {as' : Array Value} {rc rs W : Nat} {Q : Option Value → Heap → List Loc → Prop} {argsL st0 : List Value} (E : Exa Z h x C) (w1 : (Cond.methodLink own index y).before a0 Z = true) (w2 : (Cond.declares y).before a0 Z = true) (w3 : (Cond.selects C y z).before a0 Z = true) (w4 : (Cond.instanceMethod z).before a0 Z = true) (nf : NotFace (s.setVm vm0) y) (hy : y.cls ≠ "java/lang/invoke/MethodHandle" ∧ y.cls ≠ "java/lang/invoke/VarHandle") (hK : BackS l R p e below (s.setVm vm0) args z 3 W (fun A a => a = as' ∧ A.U.heap = h ∧ A.cells + rc ≤ R.cells ∧ A.slots + rs ≤ R.slots) (fun A _ v B => ∃ L, Q v B.U.heap L ∧ B.locs = A.locs ++ L ∧ B.cells = A.cells + rc ∧ B.slots = A.slots + rs ∧ CHr Z EL vm0 h B.U.vm B.U.heap)) (hlen : ∀ sig, parseMethodDescriptor y.desc = some sig → argsL.length = sig.parameters.length) (hst : st = argsL.reverse ++ .ref x :: st0) (has : (.ref x :: argsL).toArray = as') (hW : (st0.map fun v => v.category).sum ≤ W) (hsize : ls.size = c.maxLocals) (hc : cells + rc ≤ R.cells) (hs : slots + rs ≤ R.slots) (hF : ∀ v h' L, Q v h' L → Frw wl hS.size L) (hd : decode code pc = .ok (.invokevirtual index, 3)) (hp : pc + 3 = pc1)
    (K : ∀ (v : Option Value) (T' : State) (h' : Heap) (L : List Loc), Q v h' L → Pos p l e R s m args below meth c code Z EL wl hS own T'.vm T' (locs ++ L) (cells + rc) (slots + rs) h' → CHr Z EL vm0 h T'.vm h' → Go p.tables e below G (T'.setTop (mkF m pc1 ls (v.toList ++ st0)))) : Go p.tables e below G (T.setTop (mkF m pc ls st)) := by
  subst hp
  obtain ⟨cq, kq, qa, qb, qc⟩ := isOf P.hz P.heap E
  obtain ⟨v, vm₁, ⟨U, Lx, cx, sx⟩, -, X', hS', hgr, ⟨L, hQ, l1, l2, l3, hC⟩, stp⟩ := Stand.virtualBackS P.1 P.q.2.1 (y := y) (z := z) P.2.2.2.2.1 (mvT P.hz w1) (mvT P.hz w2) nf (mvT P.hz w3) (mvT P.hz w4) hy hK qa qc (g := mkF m pc ls st) rfl hsize (Steps.refl _) (argsL := argsL) (rest := st0) hlen hst (by show 2 * 0 + _ ≤ _; omega) (hb P.q.2.2 hd) (fun _ _ => ⟨has, P.heap, hc, hs⟩)
  dsimp only [Pt.U, Pt.locs, Pt.cells, Pt.slots] at *
  subst l1 l2 l3
  rw [P.heap] at hgr
  exact Go.tr stp (K v U _ L hQ (P.cameW X' hS' hgr (hF _ _ _ hQ) hC) hC)
theorem Pos.callVUW (P : Pos p l e R s m args below meth c code Z EL wl hS own vm0 T locs cells slots h) {index : Nat} {y z : MethodName} {x : Addr} {C owner : String} {as' : Array Value} {rc rs W : Nat} {Q : Option Value → Heap → List Loc → Prop} {argsL st0 : List Value} (E : Exa Z h x C) (w1 : (Cond.methodLink own index y).before a0 Z = true) (w2 : (Cond.sameMethod y.cls owner y.name y.desc).before a0 Z = true) (w5 : (Cond.declares ⟨owner, y.name, y.desc⟩).before a0 Z = true) (hy : owner ≠ "java/lang/invoke/MethodHandle" ∧ owner ≠ "java/lang/invoke/VarHandle") (w3 : (Cond.selects C y z).before a0 Z = true) (w4 : (Cond.instanceMethod z).before a0 Z = true) (hK : BackS l R p e below (s.setVm vm0) args z 3 W (fun A a => a = as' ∧ A.U.heap = h ∧ A.cells + rc ≤ R.cells ∧ A.slots + rs ≤ R.slots) (fun A _ v B => ∃ L, Q v B.U.heap L ∧ B.locs = A.locs ++ L ∧ B.cells = A.cells + rc ∧ B.slots = A.slots + rs ∧ CHr Z EL vm0 h B.U.vm B.U.heap)) (hlen : ∀ sig, parseMethodDescriptor y.desc = some sig → argsL.length = sig.parameters.length) (hst : st = argsL.reverse ++ .ref x :: st0) (has : (.ref x :: argsL).toArray = as') (hW : (st0.map fun v => v.category).sum ≤ W) (hsize : ls.size = c.maxLocals) (hc : cells + rc ≤ R.cells) (hs : slots + rs ≤ R.slots) (hF : ∀ v h' L, Q v h' L → Frw wl hS.size L) (hd : decode code pc = .ok (.invokevirtual index, 3)) (hp : pc + 3 = pc1)
    (K : ∀ (v : Option Value) (T' : State) (h' : Heap) (L : List Loc), Q v h' L → Pos p l e R s m args below meth c code Z EL wl hS own T'.vm T' (locs ++ L) (cells + rc) (slots + rs) h' → CHr Z EL vm0 h T'.vm h' → Go p.tables e below G (T'.setTop (mkF m pc1 ls (v.toList ++ st0)))) : Go p.tables e below G (T.setTop (mkF m pc ls st)) := by
  subst hp
  obtain ⟨cq, kq, qa, qb, qc⟩ := isOf P.hz P.heap E
  obtain ⟨v, vm₁, ⟨U, Lx, cx, sx⟩, -, X', hS', hgr, ⟨L, hQ, l1, l2, l3, hC⟩, stp⟩ := Stand.virtualBackUpS P.1 P.q.2.1 (x := y) (y := z) P.2.2.2.2.1 (mvT P.hz w1) (mvT P.hz w2) (mvT P.hz w5) hy (mvT P.hz w3) (mvT P.hz w4) hK qa qc (g := mkF m pc ls st) rfl hsize (Steps.refl _) (argsL := argsL) (rest := st0) hlen hst (by show 2 * 0 + _ ≤ _; omega) (hb P.q.2.2 hd) (fun _ _ => ⟨has, P.heap, hc, hs⟩)
  dsimp only [Pt.U, Pt.locs, Pt.cells, Pt.slots] at *
  subst l1 l2 l3
  rw [P.heap] at hgr
  exact Go.tr stp (K v U _ L hQ (P.cameW X' hS' hgr (hF _ _ _ hQ) hC) hC)
theorem Pos.callIW (P : Pos p l e R s m args below meth c code Z EL wl hS own vm0 T locs cells slots h) {index count : Nat} {xi y : MethodName} {x : Addr} {C : String} {as' : Array Value} {rc rs W : Nat} {Q : Option Value → Heap → List Loc → Prop} {argsL st0 : List Value} (E : Exa Z h x C) (w1 : (Cond.methodLink own index xi).before a0 Z = true) (w2 : (Cond.declares xi).before a0 Z = true) (w3 : (Cond.interfaceMethod xi.cls xi.cls xi.name xi.desc).before a0 Z = true) (h3 : ((Cond.interfaceMethod xi.cls xi.cls xi.name xi.desc).onTables && (Cond.interfaceMethod xi.cls xi.cls xi.name xi.desc).keepsFace) = true) (w4 : (Cond.selects C xi y).before a0 Z = true) (w5 : (Cond.instanceMethod y).before a0 Z = true) (w6 : (Cond.publicMethod y).before a0 Z = true) (w7 : (Cond.unhidden C xi.name xi.desc).before a0 Z = true) (w8 : (Cond.castable C xi.cls).before a0 Z = true) (hy : xi.cls ≠ "java/lang/invoke/MethodHandle" ∧ xi.cls ≠ "java/lang/invoke/VarHandle") (hK : BackS l R p e below (s.setVm vm0) args y 5 W (fun A a => a = as' ∧ A.U.heap = h ∧ A.cells + rc ≤ R.cells ∧ A.slots + rs ≤ R.slots) (fun A _ v B => ∃ L, Q v B.U.heap L ∧ B.locs = A.locs ++ L ∧ B.cells = A.cells + rc ∧ B.slots = A.slots + rs ∧ CHr Z EL vm0 h B.U.vm B.U.heap)) (hlen : ∀ sig, parseMethodDescriptor xi.desc = some sig → argsL.length = sig.parameters.length) (hst : st = argsL.reverse ++ .ref x :: st0) (has : (.ref x :: argsL).toArray = as') (hW : (st0.map fun v => v.category).sum ≤ W) (hsize : ls.size = c.maxLocals) (hc : cells + rc ≤ R.cells) (hs : slots + rs ≤ R.slots) (hF : ∀ v h' L, Q v h' L → Frw wl hS.size L) (hd : decode code pc = .ok (.invokeinterface index count, 5)) (hp : pc + 5 = pc1)
    (K : ∀ (v : Option Value) (T' : State) (h' : Heap) (L : List Loc), Q v h' L → Pos p l e R s m args below meth c code Z EL wl hS own T'.vm T' (locs ++ L) (cells + rc) (slots + rs) h' → CHr Z EL vm0 h T'.vm h' → Go p.tables e below G (T'.setTop (mkF m pc1 ls (v.toList ++ st0)))) : Go p.tables e below G (T.setTop (mkF m pc ls st)) := by
  subst hp
  obtain ⟨cq, kq, qa, qb, qc⟩ := isOf P.hz P.heap E
  obtain ⟨v, vm₁, ⟨U, Lx, cx, sx⟩, -, X', hS', hgr, ⟨L, hQ, l1, l2, l3, hC⟩, stp⟩ := Stand.interfaceBackS P.1 P.q.2.1 P.2.2.2.2.1 (mvT P.hz w1) (mvT P.hz w2) (mvT P.hz w3 h3) (mvT P.hz w4) (mvT P.hz w5) (mvT P.hz w6) (mvT P.hz w7) (mvT P.hz w8) hy hK qa qb qc (g := mkF m pc ls st) rfl hsize (Steps.refl _) (argsL := argsL) (rest := st0) hlen hst (by show 2 * 0 + _ ≤ _; omega) (hb P.q.2.2 hd) (fun _ _ => ⟨has, P.heap, hc, hs⟩)
  dsimp only [Pt.U, Pt.locs, Pt.cells, Pt.slots] at *
  subst l1 l2 l3
  rw [P.heap] at hgr
  exact Go.tr stp (K v U _ L hQ (P.cameW X' hS' hgr (hF _ _ _ hQ) hC) hC)
/-- what a body leaves, narrow: nothing interned -/
def GN (s : State) (Q : Option Value → Heap → List Loc → Prop) (rm : Room) (o : Outcome) (U : State) : Prop := ∃ v L, o = .returned v ∧ Q v U.heap L ∧ FrameEnd s o U L rm.cells rm.slots
/-- wide -/
def GW (s : State) (Z : State) (EL : List (String × Nat)) (h0 : Heap) (Q : Option Value → Heap → List Loc → Prop) (rm : Room) (o : Outcome) (U : State) : Prop := ∃ v L, o = .returned v ∧ Q v U.heap L ∧ CHr Z EL s.vm h0 U.vm U.heap ∧ ReturnedEndW s o U L rm.cells rm.slots
theorem Pos.endN {Q : Option Value → Heap → List Loc → Prop} {v : Option Value} (P : Pos p l e R s m args below meth c code Z EL wl hS own s.vm T locs cells slots h) (hlk : meth.locks = false) (hv : meth.sig.returnType = none → v = none) (hc : cells ≤ R.cells) (hs : slots ≤ R.slots) (hQ : Q v h locs) {g : JFrame}
    (stp : ∀ fs, (∀ (f : JFrame) (acts : List Action), f.method = m → f.locked = none → f.entered = [] → (doReturn e (T.setTop f) acts v).1 = T.setFrames fs) → Steps p.tables e below (T.setTop g) (T.setFrames fs)) : Go p.tables e below (GN s Q R) (T.setTop g) := by
  obtain ⟨fs, hr, hrun, hended, hW, hsame⟩ := P.1.leave (v := v) hv hlk
  refine ⟨_, _, stp fs hr, hrun, hended, v, locs, rfl, ?_, ⟨_, rfl⟩, hW, hsame.mono hc hs⟩
  have : (T.setFrames fs).heap = h := P.heap
  rw [this]; exact hQ
theorem Pos.endW {Q : Option Value → Heap → List Loc → Prop} {v : Option Value} (P : Pos p l e R s m args below meth c code Z EL wl hS own vm0 T locs cells slots h) (hEL : EW Z a0 EL) (hlk : meth.locks = false) (hv : meth.sig.returnType = none → v = none) (hc : cells ≤ R.cells) (hs : slots ≤ R.slots) (hQ : Q v h locs) {g : JFrame}
    (stp : ∀ fs, (∀ (f : JFrame) (acts : List Action), f.method = m → f.locked = none → f.entered = [] → (doReturn e (T.setTop f) acts v).1 = T.setFrames fs) → Steps p.tables e below (T.setTop g) (T.setFrames fs)) : Go p.tables e below (GW s Z EL hS Q R) (T.setTop g) := by
  obtain ⟨X, eT, ⟨k0, q1, q2⟩, hZ, hown, N, n1, C, hx, hby⟩ := P
  have X2 := X.mono hc hs
  obtain ⟨fs, hr, hrun, hended, hEnd⟩ := X2.leaveW q1 (by rw [eT]; exact q2) (v := v) hv hlk
  have hh : (T.setFrames fs).heap = h := eT
  refine ⟨_, _, stp fs hr, hrun, hended, v, locs, rfl, by rw [hh]; exact hQ, ?_, hEnd⟩
  rw [hh]; show CHr Z EL s.vm hS T.vm h; exact C.trans (CHv.at X hZ hEL C.1)
theorem Pos.retN {Q : Option Value → Heap → List Loc → Prop} (P : Pos p l e R s m args below meth c code Z EL wl hS own s.vm T locs cells slots h) (hlk : meth.locks = false) (hret : meth.sig.returnType = none) (hd : decode code pc = .ok (.return_, 1)) (hc : cells ≤ R.cells) (hs : slots ≤ R.slots) (hQ : Q none h locs) : Go p.tables e below (GN s Q R) (T.setTop (mkF m pc ls [])) :=
  P.endN hlk (fun _ => rfl) hc hs hQ fun fs hr => P.1.returnOut P.q.2.1 hret (hb P.q.2.2 hd) hr
theorem Pos.retIN {Q : Option Value → Heap → List Loc → Prop} (P : Pos p l e R s m args below meth c code Z EL wl hS own s.vm T locs cells slots h) (hlk : meth.locks = false) (hret : meth.sig.returnType = some .int) {z : Int32} (hd : decode code pc = .ok (.ireturn, 1)) (hc : cells ≤ R.cells) (hs : slots ≤ R.slots) (hQ : Q (some (.int z)) h locs) : Go p.tables e below (GN s Q R) (T.setTop (mkF m pc ls (.int z :: st))) :=
  P.endN hlk (fun q => by rw [hret] at q; cases q) hc hs hQ fun fs hr => retOut P.1 P.q.2.1 hret rfl (Or.inl ⟨rfl, Or.inl rfl, z, rfl⟩) (hb P.q.2.2 hd) hr
theorem Pos.retVN {Q : Option Value → Heap → List Loc → Prop} (P : Pos p l e R s m args below meth c code Z EL wl hS own s.vm T locs cells slots h) (hlk : meth.locks = false) {t : FieldType} (hret : meth.sig.returnType = some t) (ht : t = .boolean ∨ t = .byte ∨ t = .char ∨ t = .short) {z : Int32} (hd : decode code pc = .ok (.ireturn, 1)) (hc : cells ≤ R.cells) (hs : slots ≤ R.slots) (hQ : Q (some (.int (nar t z))) h locs) : Go p.tables e below (GN s Q R) (T.setTop (mkF m pc ls (.int z :: st))) :=
  P.endN hlk (fun q => by rw [hret] at q; cases q) hc hs hQ fun fs hr => RoadKit.retN P.1 P.q.2.1 hret ht (hb P.q.2.2 hd) hr
theorem Pos.retAN {Q : Option Value → Heap → List Loc → Prop} (P : Pos p l e R s m args below meth c code Z EL wl hS own s.vm T locs cells slots h) (hlk : meth.locks = false) {t : FieldType} (hret : meth.sig.returnType = some t) (ht : t.isReference = true) {v : Value} (hv : v.isRef = true) (hn : narrow t v = v) (hd : decode code pc = .ok (.areturn, 1)) (hc : cells ≤ R.cells) (hs : slots ≤ R.slots) (hQ : Q (some v) h locs) : Go p.tables e below (GN s Q R) (T.setTop (mkF m pc ls (v :: st))) :=
  P.endN hlk (fun q => by rw [hret] at q; cases q) hc hs hQ fun fs hr => retOut P.1 P.q.2.1 hret hn (Or.inr (Or.inr (Or.inr (Or.inr ⟨rfl, ht, hv⟩)))) (hb P.q.2.2 hd) hr
theorem Pos.retDN {Q : Option Value → Heap → List Loc → Prop} (P : Pos p l e R s m args below meth c code Z EL wl hS own s.vm T locs cells slots h) (hlk : meth.locks = false) (hret : meth.sig.returnType = some .double) {z : UInt64} (hd : decode code pc = .ok (.dreturn, 1)) (hc : cells ≤ R.cells) (hs : slots ≤ R.slots) (hQ : Q (some (.double z)) h locs) : Go p.tables e below (GN s Q R) (T.setTop (mkF m pc ls (.double z :: st))) :=
  P.endN hlk (fun q => by rw [hret] at q; cases q) hc hs hQ fun fs hr => retOut P.1 P.q.2.1 hret rfl (Or.inr (Or.inr (Or.inl ⟨rfl, rfl, z, rfl⟩))) (hb P.q.2.2 hd) hr
theorem Pos.retLN {Q : Option Value → Heap → List Loc → Prop} (P : Pos p l e R s m args below meth c code Z EL wl hS own s.vm T locs cells slots h) (hlk : meth.locks = false) (hret : meth.sig.returnType = some .long) {z : Int64} (hd : decode code pc = .ok (.lreturn, 1)) (hc : cells ≤ R.cells) (hs : slots ≤ R.slots) (hQ : Q (some (.long z)) h locs) : Go p.tables e below (GN s Q R) (T.setTop (mkF m pc ls (.long z :: st))) :=
  P.endN hlk (fun q => by rw [hret] at q; cases q) hc hs hQ fun fs hr => retOut P.1 P.q.2.1 hret rfl (Or.inr (Or.inl ⟨rfl, rfl, z, rfl⟩)) (hb P.q.2.2 hd) hr
theorem Pos.retFN {Q : Option Value → Heap → List Loc → Prop} (P : Pos p l e R s m args below meth c code Z EL wl hS own s.vm T locs cells slots h) (hlk : meth.locks = false) (hret : meth.sig.returnType = some .float) {z : UInt32} (hd : decode code pc = .ok (.freturn, 1)) (hc : cells ≤ R.cells) (hs : slots ≤ R.slots) (hQ : Q (some (.float z)) h locs) : Go p.tables e below (GN s Q R) (T.setTop (mkF m pc ls (.float z :: st))) :=
  P.endN hlk (fun q => by rw [hret] at q; cases q) hc hs hQ fun fs hr => retOut P.1 P.q.2.1 hret rfl (Or.inr (Or.inr (Or.inr (Or.inl ⟨rfl, rfl, z, rfl⟩)))) (hb P.q.2.2 hd) hr
theorem Pos.retW {Q : Option Value → Heap → List Loc → Prop} (P : Pos p l e R s m args below meth c code Z EL wl hS own vm0 T locs cells slots h) (hEL : EW Z a0 EL) (hlk : meth.locks = false) (hret : meth.sig.returnType = none) (hd : decode code pc = .ok (.return_, 1)) (hc : cells ≤ R.cells) (hs : slots ≤ R.slots) (hQ : Q none h locs) : Go p.tables e below (GW s Z EL hS Q R) (T.setTop (mkF m pc ls [])) :=
  P.endW hEL hlk (fun _ => rfl) hc hs hQ fun fs hr => P.1.returnOut P.q.2.1 hret (hb P.q.2.2 hd) hr
theorem Pos.retIW {Q : Option Value → Heap → List Loc → Prop} (P : Pos p l e R s m args below meth c code Z EL wl hS own vm0 T locs cells slots h) (hEL : EW Z a0 EL) (hlk : meth.locks = false) (hret : meth.sig.returnType = some .int) {z : Int32} (hd : decode code pc = .ok (.ireturn, 1)) (hc : cells ≤ R.cells) (hs : slots ≤ R.slots) (hQ : Q (some (.int z)) h locs) : Go p.tables e below (GW s Z EL hS Q R) (T.setTop (mkF m pc ls (.int z :: st))) :=
  P.endW hEL hlk (fun q => by rw [hret] at q; cases q) hc hs hQ fun fs hr => retOut P.1 P.q.2.1 hret rfl (Or.inl ⟨rfl, Or.inl rfl, z, rfl⟩) (hb P.q.2.2 hd) hr
theorem Pos.retVW {Q : Option Value → Heap → List Loc → Prop} (P : Pos p l e R s m args below meth c code Z EL wl hS own vm0 T locs cells slots h) (hEL : EW Z a0 EL) (hlk : meth.locks = false) {t : FieldType} (hret : meth.sig.returnType = some t) (ht : t = .boolean ∨ t = .byte ∨ t = .char ∨ t = .short) {z : Int32} (hd : decode code pc = .ok (.ireturn, 1)) (hc : cells ≤ R.cells) (hs : slots ≤ R.slots) (hQ : Q (some (.int (nar t z))) h locs) : Go p.tables e below (GW s Z EL hS Q R) (T.setTop (mkF m pc ls (.int z :: st))) :=
  P.endW hEL hlk (fun q => by rw [hret] at q; cases q) hc hs hQ fun fs hr => RoadKit.retN P.1 P.q.2.1 hret ht (hb P.q.2.2 hd) hr
theorem Pos.retAW {Q : Option Value → Heap → List Loc → Prop} (P : Pos p l e R s m args below meth c code Z EL wl hS own vm0 T locs cells slots h) (hEL : EW Z a0 EL) (hlk : meth.locks = false) {t : FieldType} (hret : meth.sig.returnType = some t) (ht : t.isReference = true) {v : Value} (hv : v.isRef = true) (hn : narrow t v = v) (hd : decode code pc = .ok (.areturn, 1)) (hc : cells ≤ R.cells) (hs : slots ≤ R.slots) (hQ : Q (some v) h locs) : Go p.tables e below (GW s Z EL hS Q R) (T.setTop (mkF m pc ls (v :: st))) :=
  P.endW hEL hlk (fun q => by rw [hret] at q; cases q) hc hs hQ fun fs hr => retOut P.1 P.q.2.1 hret hn (Or.inr (Or.inr (Or.inr (Or.inr ⟨rfl, ht, hv⟩)))) (hb P.q.2.2 hd) hr
theorem Pos.retDW {Q : Option Value → Heap → List Loc → Prop} (P : Pos p l e R s m args below meth c code Z EL wl hS own vm0 T locs cells slots h) (hEL : EW Z a0 EL) (hlk : meth.locks = false) (hret : meth.sig.returnType = some .double) {z : UInt64} (hd : decode code pc = .ok (.dreturn, 1)) (hc : cells ≤ R.cells) (hs : slots ≤ R.slots) (hQ : Q (some (.double z)) h locs) : Go p.tables e below (GW s Z EL hS Q R) (T.setTop (mkF m pc ls (.double z :: st))) :=
  P.endW hEL hlk (fun q => by rw [hret] at q; cases q) hc hs hQ fun fs hr => retOut P.1 P.q.2.1 hret rfl (Or.inr (Or.inr (Or.inl ⟨rfl, rfl, z, rfl⟩))) (hb P.q.2.2 hd) hr
theorem Pos.retLW {Q : Option Value → Heap → List Loc → Prop} (P : Pos p l e R s m args below meth c code Z EL wl hS own vm0 T locs cells slots h) (hEL : EW Z a0 EL) (hlk : meth.locks = false) (hret : meth.sig.returnType = some .long) {z : Int64} (hd : decode code pc = .ok (.lreturn, 1)) (hc : cells ≤ R.cells) (hs : slots ≤ R.slots) (hQ : Q (some (.long z)) h locs) : Go p.tables e below (GW s Z EL hS Q R) (T.setTop (mkF m pc ls (.long z :: st))) :=
  P.endW hEL hlk (fun q => by rw [hret] at q; cases q) hc hs hQ fun fs hr => retOut P.1 P.q.2.1 hret rfl (Or.inr (Or.inl ⟨rfl, rfl, z, rfl⟩)) (hb P.q.2.2 hd) hr
theorem Pos.retFW {Q : Option Value → Heap → List Loc → Prop} (P : Pos p l e R s m args below meth c code Z EL wl hS own vm0 T locs cells slots h) (hEL : EW Z a0 EL) (hlk : meth.locks = false) (hret : meth.sig.returnType = some .float) {z : UInt32} (hd : decode code pc = .ok (.freturn, 1)) (hc : cells ≤ R.cells) (hs : slots ≤ R.slots) (hQ : Q (some (.float z)) h locs) : Go p.tables e below (GW s Z EL hS Q R) (T.setTop (mkF m pc ls (.float z :: st))) :=
  P.endW hEL hlk (fun q => by rw [hret] at q; cases q) hc hs hQ fun fs hr => retOut P.1 P.q.2.1 hret rfl (Or.inr (Or.inr (Or.inr (Or.inl ⟨rfl, rfl, z, rfl⟩)))) (hb P.q.2.2 hd) hr
end Heapy
section Met
/-- what a stack trace asks of the tables and of the frames beneath -/
abbrev KK : Program → Env → List Frame → State → Array Value → Prop := fun _ _ bl s _ => s.vm.MethodsKnown ∧ s.vm.FramesKnown bl
variable {l : Launch} {Z : State} {EL : List (String × Nat)} {y : MethodName} {bytes : ByteArray} {maxL : Nat} {ret : Option FieldType} {ws : List Jvm.Cond} {rm : Room} {as' : Array Value} {h0 : Heap} {Q : Option Value → Heap → List Loc → Prop} {a0 : Array Value}
/-- a body's contract, narrow (nothing interned) -/
def MetN (l : Launch) (Z : State) (y : MethodName) (bytes : ByteArray) (maxL : Nat) (ret : Option FieldType) (ws : List Jvm.Cond) (rm : Room) (as' : Array Value) (h0 : Heap) (Q : Option Value → Heap → List Loc → Prop) : Prop :=
  MetFree l y (head1 (Jvm.Cond.code y bytes maxL ret :: ws) rm) (fun a U => a = as' ∧ Z.Warmed39 U.vm ∧ U.heap = h0) (fun _ _ _ _ _ => True) (fun _ U o U' => GN U Q rm o U')
/-- .. wide; the places of ss are no booked String's -/
def MetW (l : Launch) (Z : State) (EL : List (String × Nat)) (y : MethodName) (bytes : ByteArray) (maxL : Nat) (ret : Option FieldType) (ws : List Jvm.Cond) (rm : Room) (as' : Array Value) (ss : List Addr) (h0 : Heap) (Q : Option Value → Heap → List Loc → Prop) : Prop :=
  MetFree l y (head1 (Jvm.Cond.code y bytes maxL ret :: ws) rm) (fun a U => a = as' ∧ Z.Warmed39 U.vm ∧ U.heap = h0 ∧ CHv Z EL U.vm h0 ∧ ∀ x ∈ ss, Safe Z EL U.vm h0 x) (fun _ _ _ _ _ => True) (fun _ U o U' => GW U Z EL h0 Q rm o U')
theorem MetN.mk {ls0 : Array Slot} (wl : List Addr) (hp : plainFor y = true) (hent : ∀ m, entryFrame m as' maxL = mkF m 0 ls0 [])
    (body : ∀ p e s m below meth c s₁, c.maxLocals = maxL → meth.sig.returnType = ret → meth.name = y.name → meth.locks = false → Pos p l e rm s m as' below meth c bytes Z [] wl h0 y.cls s.vm s₁ [] 0 0 h0 → Go p.tables e below (GN s Q rm) (s₁.setTop (mkF m 0 ls0 []))) : MetN l Z y bytes maxL ret ws rm as' h0 Q := by
  refine MetFree.of_bodySF hp hisR ?_
  intro p e s m args below meth c s₁ Bd hml hP hK
  obtain ⟨rfl, hZ, hh⟩ := hP
  have hown : s.vm.findClass y.cls = some m.cls := findClass_of_methodNamed Bd.named
  have hnm := (name_of_methodNamed Bd.named Bd.method).1
  have e0 : s₁.heap = h0 := by rw [← hh, Bd.state]; rfl
  have X0 : Stand p l e rm s m args below meth c s₁ [] 0 0 := Stand.of_body Bd
  have hC : CHv Z [] s.vm h0 := fun _ q => nomatch q
  rw [hent]
  exact body p e s m below meth c s₁ hml Bd.returns hnm Bd.notSynchronized ⟨X0, e0, ⟨0, (State.WarmedH.refl s).since _, Nat.zero_le _⟩, hZ, hown, Frw.nil, hh, CHr.refl hC, Bd.exec, Bd.bytes⟩
theorem MetW.mk {ls0 : Array Slot} {ss : List Addr} (wl : List Addr) (hp : plainFor y = true) (hent : ∀ m, entryFrame m as' maxL = mkF m 0 ls0 [])
    (body : ∀ p e s m below meth c s₁, c.maxLocals = maxL → meth.sig.returnType = ret → meth.name = y.name → meth.locks = false → (∀ x ∈ ss, Safe Z EL s.vm h0 x) → Pos p l e rm s m as' below meth c bytes Z EL wl h0 y.cls s.vm s₁ [] 0 0 h0 → Go p.tables e below (GW s Z EL h0 Q rm) (s₁.setTop (mkF m 0 ls0 []))) : MetW l Z EL y bytes maxL ret ws rm as' ss h0 Q := by
  refine MetFree.of_bodySF hp hisR ?_
  intro p e s m args below meth c s₁ Bd hml hP hK
  obtain ⟨rfl, hZ, hh, hC, hss⟩ := hP
  have hown : s.vm.findClass y.cls = some m.cls := findClass_of_methodNamed Bd.named
  have hnm := (name_of_methodNamed Bd.named Bd.method).1
  have e0 : s₁.heap = h0 := by rw [← hh, Bd.state]; rfl
  have X0 : Stand p l e rm s m args below meth c s₁ [] 0 0 := Stand.of_body Bd
  rw [hent]
  exact body p e s m below meth c s₁ hml Bd.returns hnm Bd.notSynchronized hss ⟨X0, e0, ⟨0, (State.WarmedH.refl s).since _, Nat.zero_le _⟩, hZ, hown, Frw.nil, hh, CHr.refl hC, Bd.exec, Bd.bytes⟩
def MetNK (l : Launch) (Z : State) (y : MethodName) (bytes : ByteArray) (maxL : Nat) (ret : Option FieldType) (ws : List Jvm.Cond) (rm : Room) (as' : Array Value) (h0 : Heap) (Q : Option Value → Heap → List Loc → Prop) : Prop :=
  MetFree l y (head1 (Jvm.Cond.code y bytes maxL ret :: ws) rm) (fun a U => a = as' ∧ Z.Warmed39 U.vm ∧ U.heap = h0) KK (fun _ U o U' => GN U Q rm o U')
def MetWK (l : Launch) (Z : State) (EL : List (String × Nat)) (y : MethodName) (bytes : ByteArray) (maxL : Nat) (ret : Option FieldType) (ws : List Jvm.Cond) (rm : Room) (as' : Array Value) (ss : List Addr) (h0 : Heap) (Q : Option Value → Heap → List Loc → Prop) : Prop :=
  MetFree l y (head1 (Jvm.Cond.code y bytes maxL ret :: ws) rm) (fun a U => a = as' ∧ Z.Warmed39 U.vm ∧ U.heap = h0 ∧ CHv Z EL U.vm h0 ∧ ∀ x ∈ ss, Safe Z EL U.vm h0 x) KK (fun _ U o U' => GW U Z EL h0 Q rm o U')
theorem MetNK.mk {ls0 : Array Slot} (wl : List Addr) (hp : plainFor y = true) (hent : ∀ m, entryFrame m as' maxL = mkF m 0 ls0 [])
    (body : ∀ p e s m below meth c s₁, c.maxLocals = maxL → meth.sig.returnType = ret → meth.name = y.name → meth.locks = false → s.vm.MethodsKnown → s.vm.FramesKnown below → Pos p l e rm s m as' below meth c bytes Z [] wl h0 y.cls s.vm s₁ [] 0 0 h0 → Go p.tables e below (GN s Q rm) (s₁.setTop (mkF m 0 ls0 []))) : MetNK l Z y bytes maxL ret ws rm as' h0 Q := by
  refine MetFree.of_bodySF hp hisR ?_
  intro p e s m args below meth c s₁ Bd hml hP hK
  obtain ⟨rfl, hZ, hh⟩ := hP
  have hown : s.vm.findClass y.cls = some m.cls := findClass_of_methodNamed Bd.named
  have hnm := (name_of_methodNamed Bd.named Bd.method).1
  have e0 : s₁.heap = h0 := by rw [← hh, Bd.state]; rfl
  have X0 : Stand p l e rm s m args below meth c s₁ [] 0 0 := Stand.of_body Bd
  have hC : CHv Z [] s.vm h0 := fun _ q => nomatch q
  rw [hent]
  exact body p e s m below meth c s₁ hml Bd.returns hnm Bd.notSynchronized hK.1 hK.2 ⟨X0, e0, ⟨0, (State.WarmedH.refl s).since _, Nat.zero_le _⟩, hZ, hown, Frw.nil, hh, CHr.refl hC, Bd.exec, Bd.bytes⟩
theorem MetWK.mk {ls0 : Array Slot} {ss : List Addr} (wl : List Addr) (hp : plainFor y = true) (hent : ∀ m, entryFrame m as' maxL = mkF m 0 ls0 [])
    (body : ∀ p e s m below meth c s₁, c.maxLocals = maxL → meth.sig.returnType = ret → meth.name = y.name → meth.locks = false → s.vm.MethodsKnown → s.vm.FramesKnown below → (∀ x ∈ ss, Safe Z EL s.vm h0 x) → Pos p l e rm s m as' below meth c bytes Z EL wl h0 y.cls s.vm s₁ [] 0 0 h0 → Go p.tables e below (GW s Z EL h0 Q rm) (s₁.setTop (mkF m 0 ls0 []))) : MetWK l Z EL y bytes maxL ret ws rm as' ss h0 Q := by
  refine MetFree.of_bodySF hp hisR ?_
  intro p e s m args below meth c s₁ Bd hml hP hK
  obtain ⟨rfl, hZ, hh, hC, hss⟩ := hP
  have hown : s.vm.findClass y.cls = some m.cls := findClass_of_methodNamed Bd.named
  have hnm := (name_of_methodNamed Bd.named Bd.method).1
  have e0 : s₁.heap = h0 := by rw [← hh, Bd.state]; rfl
  have X0 : Stand p l e rm s m args below meth c s₁ [] 0 0 := Stand.of_body Bd
  rw [hent]
  exact body p e s m below meth c s₁ hml Bd.returns hnm Bd.notSynchronized hK.1 hK.2 hss ⟨X0, e0, ⟨0, (State.WarmedH.refl s).since _, Nat.zero_le _⟩, hZ, hown, Frw.nil, hh, CHr.refl hC, Bd.exec, Bd.bytes⟩
variable {p : Program} {e : Env} {R : Room} {s : State} {args : Array Value} {below : List Frame} {vm0 : Vm} {len W : Nat} {m : MethodId} {meth : Method} {c : Code} {code : ByteArray} {wl : List Addr} {hS h : Heap} {own : String} {T : State} {locs : List Loc} {cells slots : Nat}
/-- a narrow contract pays a call -/
theorem MetN.pay (hM : MetN l Z y bytes maxL ret [] rm as' h Q) (P : Pos p l e R s m args below meth c code Z EL wl hS own vm0 T locs cells slots h) (wc : (Jvm.Cond.code y bytes maxL ret).before a0 Z = true) (wz : (Jvm.Cond.initialized y.cls).before a0 Z = true) (hf : rm.frames + 1 ≤ R.frames) (hl : W + (maxL + 11) + rm.locals ≤ R.locals) :
    Back l R p e below (s.setVm vm0) args y len W (fun A a => a = as' ∧ A.U.heap = h ∧ A.cells + rm.cells ≤ R.cells ∧ A.slots + rm.slots ≤ R.slots) (fun A _ v B => ∃ L, Q v B.U.heap L ∧ B.locs = A.locs ++ L ∧ B.cells = A.cells + rm.cells ∧ B.slots = A.slots + rm.slots) :=
  backOf hM P.hz wc wz hf hl
theorem MetNK.pay (hM : MetNK l Z y bytes maxL ret [] rm as' h Q) (P : Pos p l e R s m args below meth c code Z EL wl hS own vm0 T locs cells slots h) (hTK : s.vm.MethodsKnown) (hB : s.vm.FramesKnown below) (wc : (Jvm.Cond.code y bytes maxL ret).before a0 Z = true) (wz : (Jvm.Cond.initialized y.cls).before a0 Z = true) (hf : rm.frames + 1 ≤ R.frames) (hl : W + (maxL + 11) + rm.locals ≤ R.locals) :
    Back l R p e below (s.setVm vm0) args y len W (fun A a => a = as' ∧ A.U.heap = h ∧ A.cells + rm.cells ≤ R.cells ∧ A.slots + rm.slots ≤ R.slots) (fun A _ v B => ∃ L, Q v B.U.heap L ∧ B.locs = A.locs ++ L ∧ B.cells = A.cells + rm.cells ∧ B.slots = A.slots + rm.slots) :=
  backOfKL hM P.hz wc wz hf hl (Vm.MethodsKnown.alikeC P.alS hTK) (Vm.FramesKnown.alikeC P.alS hB)
/-- a wide one -/
theorem MetW.pay {ss : List Addr} (hM : MetW l Z EL y bytes maxL ret [] rm as' ss h Q) (P : Pos p l e R s m args below meth c code Z EL wl hS own vm0 T locs cells slots h) (hEL : EW Z a0 EL) (hss : ∀ x ∈ ss, x < h.size ∧ Safe Z EL vm0 h x) (wc : (Jvm.Cond.code y bytes maxL ret).before a0 Z = true) (wz : (Jvm.Cond.initialized y.cls).before a0 Z = true) (hf : rm.frames + 1 ≤ R.frames) (hl : W + (maxL + 11) + rm.locals ≤ R.locals) :
    BackS l R p e below (s.setVm vm0) args y len W (fun A a => a = as' ∧ A.U.heap = h ∧ A.cells + rm.cells ≤ R.cells ∧ A.slots + rm.slots ≤ R.slots) (fun A _ v B => ∃ L, Q v B.U.heap L ∧ B.locs = A.locs ++ L ∧ B.cells = A.cells + rm.cells ∧ B.slots = A.slots + rm.slots ∧ CHr Z EL vm0 h B.U.vm B.U.heap) :=
  BackS.of_freeW (bytes := bytes) (maxL := maxL) (ret := ret) (E := fun _ first o t L k n => k = rm.cells ∧ n = rm.slots ∧ (∃ v, o = .returned v ∧ Q v t.heap L) ∧ CHr Z EL first.vm h t.vm t.heap) hM hf hl
    (fun m meth c A a Y hp => have hU : Z.Warmed39 A.U.vm := wtrans (s := s.setVm vm0) P.hz Y.warmed
      ⟨by show (Jvm.Cond.and _ .tt).before a A.U = true; rw [Jvm.Cond.before_and, mv hU wc]; rfl, mv hU wc, mv hU wz, hp.2.2.1, hp.2.2.2⟩)
    (fun m meth c A a g mk Y hp => ⟨hp.1, wtrans (s := s.setVm vm0) P.hz Y.warmed, hp.2.1, (CHv.at Y P.hz hEL P.chv).1, fun x hx => (CHv.at Y P.hz hEL P.chv).safe (hss x hx).1 (hss x hx).2⟩) (fun _ _ _ _ _ _ _ _ _ => trivial)
    (fun _ _ _ _ ⟨v, L, h1, h2, h3, h4⟩ => ⟨L, _, _, h4, rfl, rfl, ⟨v, h1, h2⟩, h3⟩)
    (fun m meth c A a g mk v t L k n Y hp _ _ ⟨e1, e2, ⟨v', e3, e4⟩, e5⟩ => by
      cases e3; subst e1 e2
      exact ⟨L, e4, rfl, rfl, rfl, (CHv.at Y P.hz hEL P.chv).trans e5⟩)
end Met
/-- what a body that touches nothing says -/
def Pure (v : Option Value) (h0 : Heap) (u : Option Value) (h : Heap) (L : List Loc) : Prop := u = v ∧ L = [] ∧ h0 = h
theorem Pure.ok {v : Option Value} {h0 : Heap} {Z : State} {EL : List (String × Nat)} {vm0 : Vm} {wl : List Addr} {n : Nat} (H : CHv Z EL vm0 h0) : ∀ u h L, Pure v h0 u h L → Frw wl n L ∧ CHr Z EL vm0 h0 vm0 h := fun u h L q => by
  obtain ⟨-, rfl, rfl⟩ := q; exact ⟨Frw.nil, CHr.refl H⟩
theorem ns_root {Z : State} {a0 : Array Value} {O K : String} {n : Nat} (w : (Jvm.Cond.noSuperclass O).before a0 Z = true) (wk : (Jvm.Cond.instantiable K n).before a0 Z = true) (hn : O ≠ K) : NS Z O K := by
  obtain ⟨c, k, h1, h2, h3, -, -⟩ := Cond.noSuperclass_spec w
  obtain ⟨t, kt, g1, -⟩ := Cond.instantiable_spec wk
  have ne := ids_ne h1 g1 hn
  refine ⟨c, t, h1, g1, fun fuel => ?_⟩
  cases fuel with
  | zero => rfl
  | succ f => simp [Vm.isSubclassAux, ne, h2, h3]
theorem ns_no {Z : State} {a0 : Array Value} {C S K : String} {n : Nat} (w : (Jvm.Cond.superclass C S).before a0 Z = true) (wk : (Jvm.Cond.instantiable K n).before a0 Z = true) (N : NS Z C K) (hn : C ≠ K) : ∃ c t, Z.vm.findClass C = some c ∧ Z.vm.findClass K = some t ∧ Z.vm.assignable c t = false := by
  obtain ⟨c, t, h0, g0, n3⟩ := N
  obtain ⟨p, k, kp, h1, h2, h3, h4, h5, -, h7⟩ := Cond.superclass_spec h0 w
  obtain ⟨t', k', g1, g2, g5, g6, -⟩ := Cond.instantiable_spec wk
  cases g0.symm.trans g1
  have g7 : k'.isInterface = false := by cases q : k'.isInterface <;> simp [q] at g6 ⊢
  have ne := ids_ne h0 g0 hn
  refine ⟨c, t, h0, g0, ?_⟩
  show Z.vm.assignableAux (255 + 1) c t = false
  simp [Vm.assignableAux, ne, h2, g2, h5, g5, g7, Vm.isSubclass, n3]
theorem Ext.keepNew {h0 h h' : Heap} {wl : List Addr} (E : Ext h0 h) (K : Keep h h' wl) (q : ∀ x ∈ wl, h0.size ≤ x) : Ext h0 h' := ⟨Nat.le_trans E.1 K.1, fun a c r => K.2.1 a c (E.2 a c r) fun z => absurd (Array.getElem?_eq_some_iff.mp r).1 (Nat.not_lt.mpr (q a z))⟩
theorem Ext.trans {h0 h h' : Heap} (E : Ext h0 h) (E' : Ext h h') : Ext h0 h' := ⟨Nat.le_trans E.1 E'.1, fun a c r => E'.2 a c (E.2 a c r)⟩
theorem Ext.refl (h : Heap) : Ext h h := ⟨Nat.le_refl _, fun _ _ r => r⟩
theorem Ext.wrNew {h0 h h' : Heap} {a : Addr} {sl : Nat} {v : Value} (E : Ext h0 h) (Wq : Wr h h' a sl v) (q : h0.size ≤ a) : Ext h0 h' := Ext.keepNew E (Keep.of_wr Wq) (allS q all0)
theorem Ext.toKeep {h h' : Heap} (E : Ext h h') (wl : List Addr) : Keep h h' wl := (Keep.refl h wl).ext E
end W
end Jvm.Pilot.@@N@@
namespace Jvm.Pilot.@@N@@
open Jvm Jvm.ClassFile Sem Op Lib Jvm.Free Jvm.Stand Jvm.LawKit Jvm.RoadKit Bundle Jvm.Pilot.@@N@@.Jvm.D
theorem wd {a0 : Array Value} {Z : State} (hw : ∀ d ∈ tables_1, d.before a0 Z = true) {k : Nat} {d : Jvm.Cond} (h : tables_1[k]? = some d) : d.before a0 Z = true := hw d (List.mem_of_getElem? h)
theorem own_up {c : Int32} (h : ¬ (255 : Int32) < c) : ¬ (65535 : Int32) < c := by
  rw [Int32.lt_iff_toInt_lt] at h ⊢
  have e0 : (255 : Int32).toInt = 255 := rfl
  have e1 : (65535 : Int32).toInt = 65535 := rfl
  omega
theorem own_m255 (x : Int32) : ¬ (x &&& 255) < 0 ∧ ¬ (255 : Int32) < (x &&& 255) := by
  have q := c_mask x 255 8 (by decide) (by decide)
  have e0 : (0 : Int32).toInt = 0 := rfl
  have e1 : (255 : Int32).toInt = 255 := rfl
  rw [Int32.lt_iff_toInt_lt, Int32.lt_iff_toInt_lt]; omega
theorem own_nar255 (x : Int32) : nar .char (x &&& 255) = x &&& 255 := i2c_mask x
theorem own_mask3 (x : Int32) : (x &&& 3) = 0 ∨ (x &&& 3) = 1 ∨ (x &&& 3) = 2 ∨ (x &&& 3) = 3 := by
  have q := c_mask x 3 2 (by decide) (by decide)
  have r : (x &&& 3).toInt = 0 ∨ (x &&& 3).toInt = 1 ∨ (x &&& 3).toInt = 2 ∨ (x &&& 3).toInt = 3 := by omega
  rcases r with r | r | r | r
  · exact Or.inl (Int32.toInt_inj.mp r)
  · exact Or.inr (Or.inl (Int32.toInt_inj.mp r))
  · exact Or.inr (Or.inr (Or.inl (Int32.toInt_inj.mp r)))
  · exact Or.inr (Or.inr (Or.inr (Int32.toInt_inj.mp r)))
theorem own_rem (y : Int32) (k : Int32) (h : 0 ≤ y.toInt) (hk : 0 < k.toInt) : (y - y / k * k).toInt = y.toInt % k.toInt := by
  have d : (y / k).toInt = y.toInt / k.toInt := by
    rw [Int32.toInt_div, Int.tdiv_eq_ediv_of_nonneg h]
    have h1 : 0 ≤ y.toInt / k.toInt := Int.ediv_nonneg h (by omega)
    have h2 : y.toInt / k.toInt ≤ y.toInt := Int.ediv_le_self _ h
    have h3 := y.toInt_lt
    rw [Int.bmod_eq_of_le (by omega) (by omega)]
  have e := Int.mul_ediv_add_emod y.toInt k.toInt
  have e' : y.toInt / k.toInt * k.toInt = k.toInt * (y.toInt / k.toInt) := Int.mul_comm _ _
  have m0 := Int.emod_nonneg y.toInt (show k.toInt ≠ 0 by omega)
  have h0 : 0 ≤ k.toInt * (y.toInt / k.toInt) := Int.mul_nonneg (by omega) (Int.ediv_nonneg h (by omega))
  have h3 := y.toInt_lt
  have q : (y / k * k).toInt = y.toInt / k.toInt * k.toInt := by
    rw [Int32.toInt_mul, d, Int.bmod_eq_of_le (by omega) (by omega)]
  rw [Int32.toInt_sub, q, Int.bmod_eq_of_le (by omega) (by omega)]; omega
theorem own_eqI {args : Array Value} {first s : State} {o : Option Outcome} {idx : List Nat} {t : Term} {k : Int32} (h : (Jvm.Cond.eq t (.int k)).value args first o s idx = some true) : t.eval args first o idx s = some (.int k) := by
  obtain ⟨x, y, e1, e2, -, k2⟩ := cmp_v (Or.inl h)
  cases Option.some.inj ((Term.int_eval k).symm.trans e2)
  obtain ⟨z, rfl⟩ := k2
  rw [e1, gotT (Cond.eq_ints e1 e2) h]
theorem own_rf {C : String} {v : Value} (h : v.isRef = true) : narrow (.object C) v = v ∧ fits (.object C) v = true := by cases v <;> first | (cases h; done) | exact ⟨rfl, rfl⟩
theorem d1_0 : decode method_3_code 0 = .ok (.iload_n 0, 1) := by decide +kernel
theorem d1_1 : decode method_3_code 1 = .ok (.ldc 22, 2) := by decide +kernel
theorem d1_3 : decode method_3_code 3 = .ok (.iand, 1) := by decide +kernel
theorem d1_4 : decode method_3_code 4 = .ok (.iconst 1, 1) := by decide +kernel
theorem d1_5 : decode method_3_code 5 = .ok (.iadd, 1) := by decide +kernel
theorem d1_6 : decode method_3_code 6 = .ok (.istore_n 1, 1) := by decide +kernel
theorem d1_7 : decode method_3_code 7 = .ok (.iload_n 0, 1) := by decide +kernel
theorem d1_8 : decode method_3_code 8 = .ok (.ifCond .ge 8, 3) := by decide +kernel
theorem d1_11 : decode method_3_code 11 = .ok (.iload_n 1, 1) := by decide +kernel
theorem d1_12 : decode method_3_code 12 = .ok (.ineg, 1) := by decide +kernel
theorem d1_13 : decode method_3_code 13 = .ok (.goto 4, 3) := by decide +kernel
theorem d1_16 : decode method_3_code 16 = .ok (.iload_n 1, 1) := by decide +kernel
theorem d1_17 : decode method_3_code 17 = .ok (.ireturn, 1) := by decide +kernel
theorem d2_0 : decode prog_31_method_1_code 0 = .ok (.aload_n 0, 1) := by decide +kernel
theorem d2_1 : decode prog_31_method_1_code 1 = .ok (.invokespecial 1, 3) := by decide +kernel
theorem d2_4 : decode prog_31_method_1_code 4 = .ok (.aload_n 0, 1) := by decide +kernel
theorem d2_5 : decode prog_31_method_1_code 5 = .ok (.aload_n 1, 1) := by decide +kernel
theorem d2_6 : decode prog_31_method_1_code 6 = .ok (.putfield 7, 3) := by decide +kernel
theorem d2_9 : decode prog_31_method_1_code 9 = .ok (.aload_n 0, 1) := by decide +kernel
theorem d2_10 : decode prog_31_method_1_code 10 = .ok (.aload_n 2, 1) := by decide +kernel
theorem d2_11 : decode prog_31_method_1_code 11 = .ok (.putfield 13, 3) := by decide +kernel
theorem d2_14 : decode prog_31_method_1_code 14 = .ok (.return_, 1) := by decide +kernel
theorem d4_0 : decode prog_31_method_5_code 0 = .ok (.dconst 0, 1) := by decide +kernel
theorem d4_1 : decode prog_31_method_5_code 1 = .ok (.dstore_n 2, 1) := by decide +kernel
theorem d4_2 : decode prog_31_method_5_code 2 = .ok (.iconst 0, 1) := by decide +kernel
theorem d4_3 : decode prog_31_method_5_code 3 = .ok (.istore 4, 2) := by decide +kernel
theorem d4_5 : decode prog_31_method_5_code 5 = .ok (.iload 4, 2) := by decide +kernel
theorem d4_7 : decode prog_31_method_5_code 7 = .ok (.aload_n 0, 1) := by decide +kernel
theorem d4_8 : decode prog_31_method_5_code 8 = .ok (.getfield 7, 3) := by decide +kernel
theorem d4_11 : decode prog_31_method_5_code 11 = .ok (.arraylength, 1) := by decide +kernel
theorem d4_12 : decode prog_31_method_5_code 12 = .ok (.if_icmp .ge 30, 3) := by decide +kernel
theorem d4_15 : decode prog_31_method_5_code 15 = .ok (.dload_n 2, 1) := by decide +kernel
theorem d4_16 : decode prog_31_method_5_code 16 = .ok (.aload_n 0, 1) := by decide +kernel
theorem d4_17 : decode prog_31_method_5_code 17 = .ok (.getfield 13, 3) := by decide +kernel
theorem d4_20 : decode prog_31_method_5_code 20 = .ok (.iload 4, 2) := by decide +kernel
theorem d4_22 : decode prog_31_method_5_code 22 = .ok (.faload, 1) := by decide +kernel
theorem d4_23 : decode prog_31_method_5_code 23 = .ok (.f2d, 1) := by decide +kernel
theorem d4_24 : decode prog_31_method_5_code 24 = .ok (.aload_n 1, 1) := by decide +kernel
theorem d4_25 : decode prog_31_method_5_code 25 = .ok (.aload_n 0, 1) := by decide +kernel
theorem d4_26 : decode prog_31_method_5_code 26 = .ok (.getfield 7, 3) := by decide +kernel
theorem d4_29 : decode prog_31_method_5_code 29 = .ok (.iload 4, 2) := by decide +kernel
theorem d4_31 : decode prog_31_method_5_code 31 = .ok (.iaload, 1) := by decide +kernel
theorem d4_32 : decode prog_31_method_5_code 32 = .ok (.daload, 1) := by decide +kernel
theorem d4_33 : decode prog_31_method_5_code 33 = .ok (.dmul, 1) := by decide +kernel
theorem d4_34 : decode prog_31_method_5_code 34 = .ok (.dadd, 1) := by decide +kernel
theorem d4_35 : decode prog_31_method_5_code 35 = .ok (.dstore_n 2, 1) := by decide +kernel
theorem d4_36 : decode prog_31_method_5_code 36 = .ok (.iinc 4 1, 3) := by decide +kernel
theorem d4_39 : decode prog_31_method_5_code 39 = .ok (.goto (-34), 3) := by decide +kernel
theorem d4_42 : decode prog_31_method_5_code 42 = .ok (.dload_n 2, 1) := by decide +kernel
theorem d4_43 : decode prog_31_method_5_code 43 = .ok (.dreturn, 1) := by decide +kernel
theorem pn_com_example_intent_search_intentsearch_rank_CategoryVectorDotPinLaw : plainName "com/example/intent_search/intentsearch/rank/CategoryVectorDotPinLaw" = true := by first | (simp [plainName, overriddenIn]; done) | decide +kernel
theorem pn_com_example_intent_search_intentsearch_rank_CategoryVector : plainName "com/example/intent_search/intentsearch/rank/CategoryVector" = true := by first | (simp [plainName, overriddenIn]; done) | decide +kernel
theorem pd_I_R_I : parseMethodDescriptor "(I)I" = some ⟨[.int], some .int⟩ := by decide +kernel
theorem pd_AIAF_R_V : parseMethodDescriptor "([I[F)V" = some ⟨[(.array .int), (.array .float)], none⟩ := by decide +kernel
theorem pd_AD_R_D : parseMethodDescriptor "([D)D" = some ⟨[(.array .double)], some .double⟩ := by decide +kernel
open Jvm.FP.Core in
theorem own_zl {a : Int64} (h : -9007199254740992 < a.toInt ∧ a.toInt < 9007199254740992) : zval b64 (val64 (l2d a)) = a.toInt * (one64 : Int) := by
  have w := whole_zval good_b64 (val64_fits (l2d a)) (l2d_whole (a := a) h)
  rw [pow_qmin64] at w; exact w
open Jvm.FP.Core in
/-- the double z is the whole number a (0 of either sign) -/
def Num (z : UInt64) (a : Int) : Prop := (∃ s c q, val64 z = .fin s c q) ∧ zval b64 (val64 z) = a * (one64 : Int)
open Jvm.FP.Core in
theorem Num.nn {z : UInt64} {a : Int} (h : Num z a) : val64 z ≠ .nan := by
  obtain ⟨⟨s, c, q, e⟩, -⟩ := h; rw [e]; simp
open Jvm.FP.Core in
theorem Num.ofL {a : Int64} (h : -9007199254740992 < a.toInt ∧ a.toInt < 9007199254740992) : Num (l2d a) a.toInt := by
  obtain ⟨c, q, e⟩ := l2d_shape a
  exact ⟨⟨_, c, q, e⟩, own_zl h⟩
open Jvm.FP.Core in
theorem Num.of_round {z : UInt64} {s : Bool} {c : Nat} {q e0 : Int} {a : Int} (hz : val64 z = round b64 (.fin s c q)) (h0 : e0 ≤ b64.qmin) (h0e : e0 ≤ q) (hv : signed s (inUnits c q e0) = a * (one64 : Int) * ((2 ^ (b64.qmin - e0).toNat : Nat) : Int)) (h : -9007199254740992 < a ∧ a < 9007199254740992) : Num z a := by
  have eA : (Int64.ofInt a).toInt = a := Int64.toInt_ofInt_of_le (by omega) (by omega)
  have zA : zval b64 (val64 (l2d (Int64.ofInt a))) = a * (one64 : Int) := by rw [own_zl (by rw [eA]; exact h), eA]
  have l1 := zval_round_le good_b64 (s := s) (c := c) (q := q) (e0 := e0) (val64_fits (l2d (Int64.ofInt a))) (l2d_fin _).ne_nan h0 h0e (by rw [zA, hv]; exact Int.le_refl _)
  have l2 := zval_round_ge good_b64 (s := s) (c := c) (q := q) (e0 := e0) (val64_fits (l2d (Int64.ofInt a))) (l2d_fin _).ne_nan h0 h0e (by rw [zA, hv]; exact Int.le_refl _)
  have ez : zval b64 (val64 z) = a * (one64 : Int) := by rw [hz, ← zA]; exact Int.le_antisymm l1 l2
  refine ⟨?_, ez⟩
  rw [hz] at ez ⊢
  rcases roundRatio_cases b64 s c 1 q with ⟨c', q', r⟩ | r
  · exact ⟨s, c', q', r⟩
  · exfalso
    have r' : round b64 (.fin s c q) = .inf s := r
    rw [r'] at ez
    have big : (9007199254740992 : Int) * (one64 : Int) < ((b64.tails * 2 ^ (b64.exps - 2) : Nat) : Int) := by decide +kernel
    have u1 : a * (one64 : Int) ≤ 9007199254740992 * (one64 : Int) := Int.mul_le_mul_of_nonneg_right (by omega) (by decide +kernel)
    have u2 : -9007199254740992 * (one64 : Int) ≤ a * (one64 : Int) := Int.mul_le_mul_of_nonneg_right (by omega) (by decide +kernel)
    rw [Int.neg_mul] at u2
    rw [← ez] at u1 u2
    cases s
    · have e : zval b64 (.inf false) = ((b64.tails * 2 ^ (b64.exps - 2) : Nat) : Int) := rfl
      rw [e] at u1; exact absurd (Int.lt_of_lt_of_le big u1) (Int.lt_irrefl _)
    · have e : zval b64 (.inf true) = -((b64.tails * 2 ^ (b64.exps - 2) : Nat) : Int) := rfl
      rw [e] at u2
      have := Int.le_of_neg_le_neg u2
      exact absurd (Int.lt_of_lt_of_le big this) (Int.lt_irrefl _)
open Jvm.FP.Core in
theorem Num.add {x y : UInt64} {a b : Int} (hx : Num x a) (hy : Num y b) (h : -9007199254740992 < a + b ∧ a + b < 9007199254740992) : Num (dadd x y) (a + b) := by
  obtain ⟨⟨s, c, q, ex⟩, zx⟩ := hx
  obtain ⟨⟨t, d, r, ey⟩, zy⟩ := hy
  have fx := val64_fits x
  have fy := val64_fits y
  rw [ex] at fx zx
  rw [ey] at fy zy
  obtain ⟨sg, n, e, es, he, hs⟩ := sum_units fx fy
  refine Num.of_round (s := sg) (c := n) (q := e) (by rw [val64_dadd, ex, ey, es]) (Int.le_refl b64.qmin) he ?_ h
  rw [hs, zx, zy, Int.sub_self, Int.add_mul]; show _ = _ * ((1 : Nat) : Int); rw [show ((1 : Nat) : Int) = 1 from rfl, Int.mul_one]
open Jvm.FP.Core in
theorem own_sg (s t : Bool) (m n : Nat) : signed (s != t) (m * n) = signed s m * signed t n := by
  cases s <;> cases t <;> simp [signed, Int.mul_neg, Int.neg_mul]
open Jvm.FP.Core in
theorem Num.mul {x y : UInt64} {a b : Int} (hx : Num x a) (hy : Num y b) (h : -9007199254740992 < a * b ∧ a * b < 9007199254740992) : Num (dmul x y) (a * b) := by
  obtain ⟨⟨s, c, q, ex⟩, zx⟩ := hx
  obtain ⟨⟨t, d, r, ey⟩, zy⟩ := hy
  have fx := val64_fits x
  have fy := val64_fits y
  rw [ex] at fx zx
  rw [ey] at fy zy
  obtain ⟨es, he, hs⟩ := product_units fx fy
  have hq : 2 * b64.qmin ≤ b64.qmin := by decide +kernel
  refine Num.of_round (s := s != t) (c := c * d) (q := q + r) (e0 := 2 * b64.qmin) (by rw [val64_dmul, ex, ey, es]) hq he ?_ h
  rw [hs, own_sg]
  have e1 : signed s (zmag b64 (.fin s c q)) = a * (one64 : Int) := zx
  have e2 : signed t (zmag b64 (.fin t d r)) = b * (one64 : Int) := zy
  have e3 : ((2 ^ (b64.qmin - 2 * b64.qmin).toNat : Nat) : Int) = (one64 : Int) := by decide +kernel
  rw [e1, e2, e3]
  simp only [Int.mul_assoc, Int.mul_comm, Int.mul_left_comm]
open Jvm.FP.Core in
theorem Num.cmp {x y : UInt64} {a : Int} (hx : Num x a) (hy : Num y a) (o : CmpOp) : cmpValue (FP.dcmp x y) o = 0 := by
  have e : FP.dcmp x y = _ := dcmp_zval hx.nn hy.nn
  rw [e, hx.2, hy.2, show compare (a * (one64 : Int)) (a * (one64 : Int)) = .eq from by simp [compare, compareOfLessAndEq]]; cases o <;> rfl
theorem Num.no {z : UInt64} {a : Int} (h : Num z a) : Jvm.Free.Fl.NoNaN64 z := Jvm.Free.Fl.val64_no.mpr h.nn
theorem Num.ofF {v : Int32} (h : -16777216 ≤ v.toInt ∧ v.toInt ≤ 16777216) : Num (FP.f2d (FP.i2f v)) v.toInt := by
  have e : FP.f2d (FP.i2f v) = FP.l2d v.toInt64 := by
    rw [i2f_w, FP.f2d_core (a := FP.l2f v.toInt64) (FP.Core.l2f_notNaN _)]; exact FP.Core.f2d_l2f (by rw [Int32.toInt_toInt64 v]; omega)
  rw [e, ← Int32.toInt_toInt64 v]
  exact Num.ofL (by rw [Int32.toInt_toInt64 v]; omega)

theorem own_i32 {n : Nat} (h : n < 2147483648) : (Int32.ofNat n).toInt = n := Int32.toInt_ofNat_of_lt h
theorem own_n32 {n : Nat} (h : n < 2147483648) : (Int32.ofNat n).toNatClampNeg = n := by rw [Int32.toNatClampNeg, own_i32 h]; rfl
theorem own_nn32 {n : Nat} (h : n < 2147483648) : ¬ Int32.ofNat n < 0 := by
  rw [Int32.lt_iff_toInt_lt, own_i32 h]; have e : (0 : Int32).toInt = 0 := rfl; omega
theorem add32 (a d : Nat) : Int32.ofNat a + Int32.ofNat d = Int32.ofNat (a + d) := (Int32.ofNat_add a d).symm
theorem add1 (a : Nat) : Int32.ofNat a + (1 : Int32) = Int32.ofNat (a + 1) := (Int32.ofNat_add a 1).symm
theorem own_m3 (u : Int32) : ∃ a : Nat, a ≤ 3 ∧ u &&& 3 = Int32.ofNat a := by
  rcases own_mask3 u with q | q | q | q
  · exact ⟨0, by decide, q⟩
  · exact ⟨1, by decide, q⟩
  · exact ⟨2, by decide, q⟩
  · exact ⟨3, by decide, q⟩
theorem own_m1 (u : Int32) : ∃ a : Nat, a ≤ 1 ∧ u &&& 1 = Int32.ofNat a := by
  have q := c_mask u 1 1 (by decide) (by decide)
  have r : (u &&& 1).toInt = 0 ∨ (u &&& 1).toInt = 1 := by omega
  rcases r with r | r
  · exact ⟨0, by decide, Int32.toInt_inj.mp r⟩
  · exact ⟨1, by decide, Int32.toInt_inj.mp r⟩
theorem own_sh (u : Int32) : -32768 ≤ u.toInt16.toInt32.toInt64.toInt ∧ u.toInt16.toInt32.toInt64.toInt ≤ 32767 := by
  rw [Int32.toInt_toInt64, Int16.toInt_toInt32]
  have h1 := u.toInt16.le_toInt
  have h2 := u.toInt16.toInt_lt
  omega
def own_g (w0 w1 w2 w3 w4 w5 w6 w7 : Int64) : Nat → Int64
  | 0 => w0
  | 1 => w1
  | 2 => w2
  | 3 => w3
  | 4 => w4
  | 5 => w5
  | 6 => w6
  | _ => w7
def Mg (r : Int32) : Prop := -16777216 ≤ r.toInt ∧ r.toInt ≤ 16777216
def QMg (h0 : Heap) (v : Option Value) (h : Heap) (L : List Loc) : Prop := L = [] ∧ h0 = h ∧ ∃ r, v = some (.int r) ∧ Mg r
theorem QMg.ok {h0 : Heap} {Z : State} {EL : List (String × Nat)} {vm0 : Vm} {wl : List Addr} {k : Nat} (H : CHv Z EL vm0 h0) : ∀ u h L, QMg h0 u h L → W.Frw wl k L ∧ CHr Z EL vm0 h0 vm0 h := fun u h L q => by
  obtain ⟨rfl, rfl, -⟩ := q; exact ⟨W.Frw.nil, CHr.refl H⟩
theorem own_mg (x : Int32) : Mg ((x &&& 16777215) + 1) ∧ Mg (-((x &&& 16777215) + 1)) := by
  have q := c_mask x 16777215 24 (by decide) (by decide)
  have e : ((x &&& 16777215) + 1).toInt = (x &&& 16777215).toInt + 1 := by
    rw [Int32.toInt_add, show (1 : Int32).toInt = 1 from rfl, Int.bmod_eq_of_le (by omega) (by omega)]
  have e2 : (-((x &&& 16777215) + 1)).toInt = -((x &&& 16777215).toInt + 1) := by
    rw [Int32.toInt_neg, e, Int.bmod_eq_of_le (by omega) (by omega)]
  unfold Mg
  omega
set_option maxRecDepth 65536 in
set_option maxHeartbeats 40000000 in
theorem c_mag (l : Launch) (Z : State) (a0 : Array Value) (hw : ∀ d ∈ tables_1, d.before a0 Z = true) (u : Int32) (h0 : Heap) : W.MetN l Z (⟨"com/example/intent_search/intentsearch/rank/CategoryVectorDotPinLaw", "mag", "(I)I"⟩ : MethodName) method_3_code 2 ((Option.some Jvm.ClassFile.FieldType.int)) [] ({ frames := 0, cells := 0, slots := 0, locals := 0 } : Room) #[.int u]  h0 (QMg h0) := by
  refine W.MetN.mk (ls0 := #[.val (.int u), .unset]) [] (plainFor_of_name pn_com_example_intent_search_intentsearch_rank_CategoryVectorDotPinLaw) (fun m => by first | (simp [entryFrame, mkF, argsToLocals, Value.category]; done) | rfl) ?_
  intro p e s m below meth c s₁ hml hret hnm hlk P0
  show W.Go p.tables e below _ (s₁.setTop (mkF m 0 #[.val (.int u), .unset] []))
  refine W.g_iloadN (pc1 := 1) P0.q d1_0 rfl rfl ?_
  refine P0.ldcI (pc1 := 3) (wd hw (k := 4) rfl) d1_1 rfl ?_
  refine W.g_iand (pc1 := 4) P0.q d1_3 rfl ?_
  refine W.g_iconst (pc1 := 5) (v := (1 : Int32)) P0.q d1_4 (by decide) rfl ?_
  refine W.g_iadd (pc1 := 6) P0.q d1_5 rfl ?_
  refine W.g_istoreN (pc1 := 7) (ls2 := #[.val (.int u), .val (.int ((u &&& (16777215 : Int32)) + (1 : Int32)))]) P0.q d1_6 rfl rfl ?_
  refine W.g_iloadN (pc1 := 8) P0.q d1_7 rfl rfl ?_
  refine W.g_if (pc1 := 16) (pc2 := 11) P0.q d1_8 (by decide) rfl rfl (fun (h1 : ¬ u < 0) => ?_) (fun (h1 : ¬ (¬ u < 0)) => ?_)
  · refine W.g_iloadN (pc1 := 17) P0.q d1_16 rfl rfl ?_
    exact P0.retIN hlk hret d1_17 (by decide) (by decide) ⟨rfl, rfl, _, rfl, (own_mg u).1⟩
  · refine W.g_iloadN (pc1 := 12) P0.q d1_11 rfl rfl ?_
    refine W.g_ineg (pc1 := 13) P0.q d1_12 rfl ?_
    refine W.g_goto (pc1 := 17) P0.q d1_13 (by decide) rfl ?_
    exact P0.retIN hlk hret d1_17 (by decide) (by decide) ⟨rfl, rfl, _, rfl, (own_mg u).2⟩
def QCv (Z : State) (x td tv : Addr) (h0 : Heap) (v : Option Value) (h : Heap) (L : List Loc) : Prop := v = none ∧ W.Frw [x] h0.size L ∧ Keep h0 h [x] ∧ Exa Z h x "com/example/intent_search/intentsearch/rank/CategoryVector" ∧ Fld Z h x "com/example/intent_search/intentsearch/rank/CategoryVector" "dimensions" "[I" (.ref td) ∧ Fld Z h x "com/example/intent_search/intentsearch/rank/CategoryVector" "values" "[F" (.ref tv)
set_option maxRecDepth 65536 in
set_option maxHeartbeats 40000000 in
theorem c_cv (l : Launch) (Z : State) (a0 : Array Value) (hw : ∀ d ∈ tables_1, d.before a0 Z = true) (x td tv : Addr) (h0 : Heap) (E0 : Exa Z h0 x "com/example/intent_search/intentsearch/rank/CategoryVector") (vdimensions : Value) (Fdimensions : Fld Z h0 x "com/example/intent_search/intentsearch/rank/CategoryVector" "dimensions" "[I" vdimensions) (vvalues : Value) (Fvalues : Fld Z h0 x "com/example/intent_search/intentsearch/rank/CategoryVector" "values" "[F" vvalues) : W.MetN l Z (⟨"com/example/intent_search/intentsearch/rank/CategoryVector", "<init>", "([I[F)V"⟩ : MethodName) prog_31_method_1_code 3 ((Option.none : Option Jvm.ClassFile.FieldType)) [] ({ frames := 1, cells := 0, slots := 0, locals := 14 } : Room) #[.ref x, .ref td, .ref tv]  h0 (QCv Z x td tv h0) := by
  refine W.MetN.mk (ls0 := #[.val (.ref x), .val (.ref td), .val (.ref tv)]) [x] (plainFor_of_name pn_com_example_intent_search_intentsearch_rank_CategoryVector) (fun m => by first | (simp [entryFrame, mkF, argsToLocals, Value.category]; done) | rfl) ?_
  intro p e s m below meth c s₁ hml hret hnm hlk P0
  show W.Go p.tables e below _ (s₁.setTop (mkF m 0 #[.val (.ref x), .val (.ref td), .val (.ref tv)] []))
  refine W.g_aloadN (pc1 := 1) P0.q d2_0 rfl rfl rfl ?_
  refine P0.initO (pc1 := 4) (W := 0) (wd hw (k := 15) rfl) (wd hw (k := 16) rfl) (wd hw (k := 17) rfl) (by rw [hml]; rfl) (by decide) (Nat.le_of_eq rfl) (by decide) d2_1 rfl ?_
  intro T101 P101
  refine W.g_aloadN (pc1 := 5) P101.q d2_4 rfl rfl rfl ?_
  refine W.g_aloadN (pc1 := 6) P101.q d2_5 rfl rfl rfl ?_
  refine P101.putF (host := "") (pc1 := 9) (Or.inl (wd hw (k := 18) rfl)) Via.refl Fdimensions E0 (Or.inr ⟨(wd hw (k := 19) rfl), rfl, hnm⟩) (wd hw (k := 10) rfl) (ty := (.array .int)) (by decide) rfl rfl (Or.inl (List.mem_singleton.mpr rfl)) (Safe.exa P101.al E0 (by decide) (by decide)) d2_6 rfl ?_
  intro T102 h102 P102 W102
  have G102_dimensions := Fdimensions.same W102
  have G102_values := Fvalues.other W102 (Or.inr (slot_ne (t := (.array .float)) (t' := (.array .int)) (Or.inr (wd hw (k := 21) rfl)) (Or.inr (wd hw (k := 19) rfl)) (by decide) (by decide) (by decide)))
  have EE102 := E0.wr W102
  refine W.g_aloadN (pc1 := 10) P102.q d2_9 rfl rfl rfl ?_
  refine W.g_aloadN (pc1 := 11) P102.q d2_10 rfl rfl rfl ?_
  refine P102.putF (host := "") (pc1 := 14) (Or.inl (wd hw (k := 20) rfl)) Via.refl G102_values EE102 (Or.inr ⟨(wd hw (k := 21) rfl), rfl, hnm⟩) (wd hw (k := 10) rfl) (ty := (.array .float)) (by decide) rfl rfl (Or.inl (List.mem_singleton.mpr rfl)) (Safe.exa P102.al EE102 (by decide) (by decide)) d2_11 rfl ?_
  intro T103 h103 P103 W103
  have G103_dimensions := G102_dimensions.other W103 (Or.inr (slot_ne (t := (.array .int)) (t' := (.array .float)) (Or.inr (wd hw (k := 19) rfl)) (Or.inr (wd hw (k := 21) rfl)) (by decide) (by decide) (by decide)))
  have G103_values := G102_values.same W103
  have EE103 := EE102.wr W103
  exact P103.retN hlk hret d2_14 (by decide) (by decide) ⟨rfl, P103.fr, P103.keep, EE103, G103_dimensions, G103_values⟩
set_option maxRecDepth 65536 in
set_option maxHeartbeats 40000000 in
theorem c_dot0 (l : Launch) (Z : State) (a0 : Array Value) (hw : ∀ d ∈ tables_1, d.before a0 Z = true) (x td tv tz : Addr) (kd kv kz : ClassId) (gd : Nat → UInt64) (vz : List Value)  (h0 : Heap) (Fd : Fld Z h0 x "com/example/intent_search/intentsearch/rank/CategoryVector" "dimensions" "[I" (.ref td)) (Fv : Fld Z h0 x "com/example/intent_search/intentsearch/rank/CategoryVector" "values" "[F" (.ref tv)) (Vd : Arv Z h0 td kd .int 0 [] (.int 0)) (Vv : Arv Z h0 tv kv .float 0 [] (.float 0)) (Vz : Arv Z h0 tz kz .double 8 vz (.double 0)) (hz : ∀ i, i < 8 → vz.getD i (.double 0) = .double (gd i)) : W.MetN l Z (⟨"com/example/intent_search/intentsearch/rank/CategoryVector", "dot", "([D)D"⟩ : MethodName) prog_31_method_5_code 5 ((Option.some Jvm.ClassFile.FieldType.double)) [] ({ frames := 0, cells := 0, slots := 0, locals := 0 } : Room) #[.ref x, .ref tz]  h0 (W.Pure (some (.double (0 : UInt64))) h0) := by
  refine W.MetN.mk (ls0 := #[.val (.ref x), .val (.ref tz), .unset, .unset, .unset]) [] (plainFor_of_name pn_com_example_intent_search_intentsearch_rank_CategoryVector) (fun m => by first | (simp [entryFrame, mkF, argsToLocals, Value.category]; done) | rfl) ?_
  intro p e s m below meth c s₁ hml hret hnm hlk P0
  show W.Go p.tables e below _ (s₁.setTop (mkF m 0 #[.val (.ref x), .val (.ref tz), .unset, .unset, .unset] []))
  refine W.g_dconst0 (pc1 := 1) P0.q d4_0 rfl ?_
  refine W.g_dstoreN (pc1 := 2) (ls2 := #[.val (.ref x), .val (.ref tz), .val (.double (0 : UInt64)), .second, .unset]) P0.q d4_1 rfl rfl ?_
  refine W.g_iconst (pc1 := 3) (v := (0 : Int32)) P0.q d4_2 (by decide) rfl ?_
  refine W.g_istore (pc1 := 5) (ls2 := #[.val (.ref x), .val (.ref tz), .val (.double (0 : UInt64)), .second, .val (.int (0 : Int32))]) P0.q d4_3 rfl rfl ?_
  refine W.g_iload (pc1 := 7) P0.q d4_5 rfl rfl ?_
  refine W.g_aloadN (pc1 := 8) P0.q d4_7 rfl rfl rfl ?_
  refine P0.getF (host := "") (pc1 := 11) (Or.inl (wd hw (k := 18) rfl)) Via.refl Fd d4_8 rfl ?_
  intro T104 P104
  refine P104.len (pc1 := 12) Vd d4_11 rfl ?_
  refine W.g_cmpY (pc1 := 42) P104.q d4_12 (by decide) rfl (by decide) ?_
  refine W.g_dloadN (pc1 := 43) P104.q d4_42 rfl rfl ?_
  exact P104.retDN hlk hret d4_43 (by decide) (by decide) ⟨rfl, rfl, rfl⟩
set_option maxRecDepth 65536 in
set_option maxHeartbeats 40000000 in
theorem c_dot1 (l : Launch) (Z : State) (a0 : Array Value) (hw : ∀ d ∈ tables_1, d.before a0 Z = true) (x td tv tz : Addr) (kd kv kz : ClassId) (gd : Nat → UInt64) (vz : List Value) (f0 : UInt32) (d0 : Nat) (hd0 : d0 < 8) (hf0 : Jvm.Free.Fl.NoNaN64 (FP.f2d f0)) (hm0 : Jvm.Free.Fl.NoNaN64 (FP.dmul (FP.f2d f0) (gd d0))) (ha0 : Jvm.Free.Fl.NoNaN64 (FP.dadd (0 : UInt64) (FP.dmul (FP.f2d f0) (gd d0)))) (h0 : Heap) (Fd : Fld Z h0 x "com/example/intent_search/intentsearch/rank/CategoryVector" "dimensions" "[I" (.ref td)) (Fv : Fld Z h0 x "com/example/intent_search/intentsearch/rank/CategoryVector" "values" "[F" (.ref tv)) (Vd : Arv Z h0 td kd .int 1 [.int (Int32.ofNat d0)] (.int 0)) (Vv : Arv Z h0 tv kv .float 1 [.float f0] (.float 0)) (Vz : Arv Z h0 tz kz .double 8 vz (.double 0)) (hz : ∀ i, i < 8 → vz.getD i (.double 0) = .double (gd i)) : W.MetN l Z (⟨"com/example/intent_search/intentsearch/rank/CategoryVector", "dot", "([D)D"⟩ : MethodName) prog_31_method_5_code 5 ((Option.some Jvm.ClassFile.FieldType.double)) [] ({ frames := 0, cells := 0, slots := 0, locals := 0 } : Room) #[.ref x, .ref tz]  h0 (W.Pure (some (.double (FP.dadd (0 : UInt64) (FP.dmul (FP.f2d f0) (gd d0))))) h0) := by
  refine W.MetN.mk (ls0 := #[.val (.ref x), .val (.ref tz), .unset, .unset, .unset]) [] (plainFor_of_name pn_com_example_intent_search_intentsearch_rank_CategoryVector) (fun m => by first | (simp [entryFrame, mkF, argsToLocals, Value.category]; done) | rfl) ?_
  intro p e s m below meth c s₁ hml hret hnm hlk P0
  show W.Go p.tables e below _ (s₁.setTop (mkF m 0 #[.val (.ref x), .val (.ref tz), .unset, .unset, .unset] []))
  refine W.g_dconst0 (pc1 := 1) P0.q d4_0 rfl ?_
  refine W.g_dstoreN (pc1 := 2) (ls2 := #[.val (.ref x), .val (.ref tz), .val (.double (0 : UInt64)), .second, .unset]) P0.q d4_1 rfl rfl ?_
  refine W.g_iconst (pc1 := 3) (v := (0 : Int32)) P0.q d4_2 (by decide) rfl ?_
  refine W.g_istore (pc1 := 5) (ls2 := #[.val (.ref x), .val (.ref tz), .val (.double (0 : UInt64)), .second, .val (.int (0 : Int32))]) P0.q d4_3 rfl rfl ?_
  refine W.g_iload (pc1 := 7) P0.q d4_5 rfl rfl ?_
  refine W.g_aloadN (pc1 := 8) P0.q d4_7 rfl rfl rfl ?_
  refine P0.getF (host := "") (pc1 := 11) (Or.inl (wd hw (k := 18) rfl)) Via.refl Fd d4_8 rfl ?_
  intro T105 P105
  refine P105.len (pc1 := 12) Vd d4_11 rfl ?_
  refine W.g_cmpN (pc2 := 15) P105.q d4_12 rfl (by decide) ?_
  refine W.g_dloadN (pc1 := 16) P105.q d4_15 rfl rfl ?_
  refine W.g_aloadN (pc1 := 17) P105.q d4_16 rfl rfl rfl ?_
  refine P105.getF (host := "") (pc1 := 20) (Or.inl (wd hw (k := 20) rfl)) Via.refl Fv d4_17 rfl ?_
  intro T106 P106
  refine W.g_iload (pc1 := 22) P106.q d4_20 rfl rfl ?_
  refine P106.ldF (pc1 := 23) (v := (.float f0)) Vv (by decide) (by decide) rfl d4_22 rfl ?_
  refine W.g_f2d (pc1 := 24) P106.q d4_23 hf0 rfl ?_
  refine W.g_aloadN (pc1 := 25) P106.q d4_24 rfl rfl rfl ?_
  refine W.g_aloadN (pc1 := 26) P106.q d4_25 rfl rfl rfl ?_
  refine P106.getF (host := "") (pc1 := 29) (Or.inl (wd hw (k := 18) rfl)) Via.refl Fd d4_26 rfl ?_
  intro T107 P107
  refine W.g_iload (pc1 := 31) P107.q d4_29 rfl rfl ?_
  refine P107.ldI (pc1 := 32) (v := (.int (Int32.ofNat d0))) Vd (by decide) (by decide) rfl d4_31 rfl ?_
  refine P107.ldD (pc1 := 33) (v := (.double (gd d0))) Vz (own_nn32 (by omega)) (by rw [own_n32 (by omega)]; exact hd0) (by rw [own_n32 (by omega)]; exact hz d0 hd0) d4_32 rfl ?_
  refine W.g_dmul (pc1 := 34) P107.q d4_33 hm0 rfl ?_
  refine W.g_dadd (pc1 := 35) P107.q d4_34 ha0 rfl ?_
  refine W.g_dstoreN (pc1 := 36) (ls2 := #[.val (.ref x), .val (.ref tz), .val (.double (FP.dadd (0 : UInt64) (FP.dmul (FP.f2d f0) (gd d0)))), .second, .val (.int (0 : Int32))]) P107.q d4_35 rfl rfl ?_
  refine W.g_iinc (pc1 := 39) (ls2 := #[.val (.ref x), .val (.ref tz), .val (.double (FP.dadd (0 : UInt64) (FP.dmul (FP.f2d f0) (gd d0)))), .second, .val (.int ((0 : Int32) + Int32.ofInt 1))]) P107.q d4_36 rfl rfl rfl ?_
  refine W.g_goto (pc1 := 5) P107.q d4_39 (by decide) rfl ?_
  refine W.g_iload (pc1 := 7) P107.q d4_5 rfl rfl ?_
  refine W.g_aloadN (pc1 := 8) P107.q d4_7 rfl rfl rfl ?_
  refine P107.getF (host := "") (pc1 := 11) (Or.inl (wd hw (k := 18) rfl)) Via.refl Fd d4_8 rfl ?_
  intro T108 P108
  refine P108.len (pc1 := 12) Vd d4_11 rfl ?_
  show W.Go p.tables e below _ (T108.setTop (mkF m 12 #[.val (.ref x), .val (.ref tz), .val (.double (FP.dadd (0 : UInt64) (FP.dmul (FP.f2d f0) (gd d0)))), .second, .val (.int (1 : Int32))] [.int 1, .int 1]))
  refine W.g_cmpY (pc1 := 42) P108.q d4_12 (by decide) rfl (by decide) ?_
  refine W.g_dloadN (pc1 := 43) P108.q d4_42 rfl rfl ?_
  exact P108.retDN hlk hret d4_43 (by decide) (by decide) ⟨rfl, rfl, rfl⟩
set_option maxRecDepth 65536 in
set_option maxHeartbeats 40000000 in
theorem c_dot2 (l : Launch) (Z : State) (a0 : Array Value) (hw : ∀ d ∈ tables_1, d.before a0 Z = true) (x td tv tz : Addr) (kd kv kz : ClassId) (gd : Nat → UInt64) (vz : List Value) (f0 : UInt32) (d0 : Nat) (hd0 : d0 < 8) (hf0 : Jvm.Free.Fl.NoNaN64 (FP.f2d f0)) (hm0 : Jvm.Free.Fl.NoNaN64 (FP.dmul (FP.f2d f0) (gd d0))) (ha0 : Jvm.Free.Fl.NoNaN64 (FP.dadd (0 : UInt64) (FP.dmul (FP.f2d f0) (gd d0)))) (f1 : UInt32) (d1 : Nat) (hd1 : d1 < 8) (hf1 : Jvm.Free.Fl.NoNaN64 (FP.f2d f1)) (hm1 : Jvm.Free.Fl.NoNaN64 (FP.dmul (FP.f2d f1) (gd d1))) (ha1 : Jvm.Free.Fl.NoNaN64 (FP.dadd (FP.dadd (0 : UInt64) (FP.dmul (FP.f2d f0) (gd d0))) (FP.dmul (FP.f2d f1) (gd d1)))) (h0 : Heap) (Fd : Fld Z h0 x "com/example/intent_search/intentsearch/rank/CategoryVector" "dimensions" "[I" (.ref td)) (Fv : Fld Z h0 x "com/example/intent_search/intentsearch/rank/CategoryVector" "values" "[F" (.ref tv)) (Vd : Arv Z h0 td kd .int 2 [.int (Int32.ofNat d0), .int (Int32.ofNat d1)] (.int 0)) (Vv : Arv Z h0 tv kv .float 2 [.float f0, .float f1] (.float 0)) (Vz : Arv Z h0 tz kz .double 8 vz (.double 0)) (hz : ∀ i, i < 8 → vz.getD i (.double 0) = .double (gd i)) : W.MetN l Z (⟨"com/example/intent_search/intentsearch/rank/CategoryVector", "dot", "([D)D"⟩ : MethodName) prog_31_method_5_code 5 ((Option.some Jvm.ClassFile.FieldType.double)) [] ({ frames := 0, cells := 0, slots := 0, locals := 0 } : Room) #[.ref x, .ref tz]  h0 (W.Pure (some (.double (FP.dadd (FP.dadd (0 : UInt64) (FP.dmul (FP.f2d f0) (gd d0))) (FP.dmul (FP.f2d f1) (gd d1))))) h0) := by
  refine W.MetN.mk (ls0 := #[.val (.ref x), .val (.ref tz), .unset, .unset, .unset]) [] (plainFor_of_name pn_com_example_intent_search_intentsearch_rank_CategoryVector) (fun m => by first | (simp [entryFrame, mkF, argsToLocals, Value.category]; done) | rfl) ?_
  intro p e s m below meth c s₁ hml hret hnm hlk P0
  show W.Go p.tables e below _ (s₁.setTop (mkF m 0 #[.val (.ref x), .val (.ref tz), .unset, .unset, .unset] []))
  refine W.g_dconst0 (pc1 := 1) P0.q d4_0 rfl ?_
  refine W.g_dstoreN (pc1 := 2) (ls2 := #[.val (.ref x), .val (.ref tz), .val (.double (0 : UInt64)), .second, .unset]) P0.q d4_1 rfl rfl ?_
  refine W.g_iconst (pc1 := 3) (v := (0 : Int32)) P0.q d4_2 (by decide) rfl ?_
  refine W.g_istore (pc1 := 5) (ls2 := #[.val (.ref x), .val (.ref tz), .val (.double (0 : UInt64)), .second, .val (.int (0 : Int32))]) P0.q d4_3 rfl rfl ?_
  refine W.g_iload (pc1 := 7) P0.q d4_5 rfl rfl ?_
  refine W.g_aloadN (pc1 := 8) P0.q d4_7 rfl rfl rfl ?_
  refine P0.getF (host := "") (pc1 := 11) (Or.inl (wd hw (k := 18) rfl)) Via.refl Fd d4_8 rfl ?_
  intro T109 P109
  refine P109.len (pc1 := 12) Vd d4_11 rfl ?_
  refine W.g_cmpN (pc2 := 15) P109.q d4_12 rfl (by decide) ?_
  refine W.g_dloadN (pc1 := 16) P109.q d4_15 rfl rfl ?_
  refine W.g_aloadN (pc1 := 17) P109.q d4_16 rfl rfl rfl ?_
  refine P109.getF (host := "") (pc1 := 20) (Or.inl (wd hw (k := 20) rfl)) Via.refl Fv d4_17 rfl ?_
  intro T110 P110
  refine W.g_iload (pc1 := 22) P110.q d4_20 rfl rfl ?_
  refine P110.ldF (pc1 := 23) (v := (.float f0)) Vv (by decide) (by decide) rfl d4_22 rfl ?_
  refine W.g_f2d (pc1 := 24) P110.q d4_23 hf0 rfl ?_
  refine W.g_aloadN (pc1 := 25) P110.q d4_24 rfl rfl rfl ?_
  refine W.g_aloadN (pc1 := 26) P110.q d4_25 rfl rfl rfl ?_
  refine P110.getF (host := "") (pc1 := 29) (Or.inl (wd hw (k := 18) rfl)) Via.refl Fd d4_26 rfl ?_
  intro T111 P111
  refine W.g_iload (pc1 := 31) P111.q d4_29 rfl rfl ?_
  refine P111.ldI (pc1 := 32) (v := (.int (Int32.ofNat d0))) Vd (by decide) (by decide) rfl d4_31 rfl ?_
  refine P111.ldD (pc1 := 33) (v := (.double (gd d0))) Vz (own_nn32 (by omega)) (by rw [own_n32 (by omega)]; exact hd0) (by rw [own_n32 (by omega)]; exact hz d0 hd0) d4_32 rfl ?_
  refine W.g_dmul (pc1 := 34) P111.q d4_33 hm0 rfl ?_
  refine W.g_dadd (pc1 := 35) P111.q d4_34 ha0 rfl ?_
  refine W.g_dstoreN (pc1 := 36) (ls2 := #[.val (.ref x), .val (.ref tz), .val (.double (FP.dadd (0 : UInt64) (FP.dmul (FP.f2d f0) (gd d0)))), .second, .val (.int (0 : Int32))]) P111.q d4_35 rfl rfl ?_
  refine W.g_iinc (pc1 := 39) (ls2 := #[.val (.ref x), .val (.ref tz), .val (.double (FP.dadd (0 : UInt64) (FP.dmul (FP.f2d f0) (gd d0)))), .second, .val (.int ((0 : Int32) + Int32.ofInt 1))]) P111.q d4_36 rfl rfl rfl ?_
  refine W.g_goto (pc1 := 5) P111.q d4_39 (by decide) rfl ?_
  refine W.g_iload (pc1 := 7) P111.q d4_5 rfl rfl ?_
  refine W.g_aloadN (pc1 := 8) P111.q d4_7 rfl rfl rfl ?_
  refine P111.getF (host := "") (pc1 := 11) (Or.inl (wd hw (k := 18) rfl)) Via.refl Fd d4_8 rfl ?_
  intro T112 P112
  refine P112.len (pc1 := 12) Vd d4_11 rfl ?_
  show W.Go p.tables e below _ (T112.setTop (mkF m 12 #[.val (.ref x), .val (.ref tz), .val (.double (FP.dadd (0 : UInt64) (FP.dmul (FP.f2d f0) (gd d0)))), .second, .val (.int (1 : Int32))] [.int 2, .int 1]))
  refine W.g_cmpN (pc2 := 15) P112.q d4_12 rfl (by decide) ?_
  refine W.g_dloadN (pc1 := 16) P112.q d4_15 rfl rfl ?_
  refine W.g_aloadN (pc1 := 17) P112.q d4_16 rfl rfl rfl ?_
  refine P112.getF (host := "") (pc1 := 20) (Or.inl (wd hw (k := 20) rfl)) Via.refl Fv d4_17 rfl ?_
  intro T113 P113
  refine W.g_iload (pc1 := 22) P113.q d4_20 rfl rfl ?_
  refine P113.ldF (pc1 := 23) (v := (.float f1)) Vv (by decide) (by decide) rfl d4_22 rfl ?_
  refine W.g_f2d (pc1 := 24) P113.q d4_23 hf1 rfl ?_
  refine W.g_aloadN (pc1 := 25) P113.q d4_24 rfl rfl rfl ?_
  refine W.g_aloadN (pc1 := 26) P113.q d4_25 rfl rfl rfl ?_
  refine P113.getF (host := "") (pc1 := 29) (Or.inl (wd hw (k := 18) rfl)) Via.refl Fd d4_26 rfl ?_
  intro T114 P114
  refine W.g_iload (pc1 := 31) P114.q d4_29 rfl rfl ?_
  refine P114.ldI (pc1 := 32) (v := (.int (Int32.ofNat d1))) Vd (by decide) (by decide) rfl d4_31 rfl ?_
  refine P114.ldD (pc1 := 33) (v := (.double (gd d1))) Vz (own_nn32 (by omega)) (by rw [own_n32 (by omega)]; exact hd1) (by rw [own_n32 (by omega)]; exact hz d1 hd1) d4_32 rfl ?_
  refine W.g_dmul (pc1 := 34) P114.q d4_33 hm1 rfl ?_
  refine W.g_dadd (pc1 := 35) P114.q d4_34 ha1 rfl ?_
  refine W.g_dstoreN (pc1 := 36) (ls2 := #[.val (.ref x), .val (.ref tz), .val (.double (FP.dadd (FP.dadd (0 : UInt64) (FP.dmul (FP.f2d f0) (gd d0))) (FP.dmul (FP.f2d f1) (gd d1)))), .second, .val (.int (1 : Int32))]) P114.q d4_35 rfl rfl ?_
  refine W.g_iinc (pc1 := 39) (ls2 := #[.val (.ref x), .val (.ref tz), .val (.double (FP.dadd (FP.dadd (0 : UInt64) (FP.dmul (FP.f2d f0) (gd d0))) (FP.dmul (FP.f2d f1) (gd d1)))), .second, .val (.int ((1 : Int32) + Int32.ofInt 1))]) P114.q d4_36 rfl rfl rfl ?_
  refine W.g_goto (pc1 := 5) P114.q d4_39 (by decide) rfl ?_
  refine W.g_iload (pc1 := 7) P114.q d4_5 rfl rfl ?_
  refine W.g_aloadN (pc1 := 8) P114.q d4_7 rfl rfl rfl ?_
  refine P114.getF (host := "") (pc1 := 11) (Or.inl (wd hw (k := 18) rfl)) Via.refl Fd d4_8 rfl ?_
  intro T115 P115
  refine P115.len (pc1 := 12) Vd d4_11 rfl ?_
  show W.Go p.tables e below _ (T115.setTop (mkF m 12 #[.val (.ref x), .val (.ref tz), .val (.double (FP.dadd (FP.dadd (0 : UInt64) (FP.dmul (FP.f2d f0) (gd d0))) (FP.dmul (FP.f2d f1) (gd d1)))), .second, .val (.int (2 : Int32))] [.int 2, .int 2]))
  refine W.g_cmpY (pc1 := 42) P115.q d4_12 (by decide) rfl (by decide) ?_
  refine W.g_dloadN (pc1 := 43) P115.q d4_42 rfl rfl ?_
  exact P115.retDN hlk hret d4_43 (by decide) (by decide) ⟨rfl, rfl, rfl⟩
set_option maxRecDepth 65536 in
set_option maxHeartbeats 40000000 in
theorem c_dot3 (l : Launch) (Z : State) (a0 : Array Value) (hw : ∀ d ∈ tables_1, d.before a0 Z = true) (x td tv tz : Addr) (kd kv kz : ClassId) (gd : Nat → UInt64) (vz : List Value) (f0 : UInt32) (d0 : Nat) (hd0 : d0 < 8) (hf0 : Jvm.Free.Fl.NoNaN64 (FP.f2d f0)) (hm0 : Jvm.Free.Fl.NoNaN64 (FP.dmul (FP.f2d f0) (gd d0))) (ha0 : Jvm.Free.Fl.NoNaN64 (FP.dadd (0 : UInt64) (FP.dmul (FP.f2d f0) (gd d0)))) (f1 : UInt32) (d1 : Nat) (hd1 : d1 < 8) (hf1 : Jvm.Free.Fl.NoNaN64 (FP.f2d f1)) (hm1 : Jvm.Free.Fl.NoNaN64 (FP.dmul (FP.f2d f1) (gd d1))) (ha1 : Jvm.Free.Fl.NoNaN64 (FP.dadd (FP.dadd (0 : UInt64) (FP.dmul (FP.f2d f0) (gd d0))) (FP.dmul (FP.f2d f1) (gd d1)))) (f2 : UInt32) (d2 : Nat) (hd2 : d2 < 8) (hf2 : Jvm.Free.Fl.NoNaN64 (FP.f2d f2)) (hm2 : Jvm.Free.Fl.NoNaN64 (FP.dmul (FP.f2d f2) (gd d2))) (ha2 : Jvm.Free.Fl.NoNaN64 (FP.dadd (FP.dadd (FP.dadd (0 : UInt64) (FP.dmul (FP.f2d f0) (gd d0))) (FP.dmul (FP.f2d f1) (gd d1))) (FP.dmul (FP.f2d f2) (gd d2)))) (h0 : Heap) (Fd : Fld Z h0 x "com/example/intent_search/intentsearch/rank/CategoryVector" "dimensions" "[I" (.ref td)) (Fv : Fld Z h0 x "com/example/intent_search/intentsearch/rank/CategoryVector" "values" "[F" (.ref tv)) (Vd : Arv Z h0 td kd .int 3 [.int (Int32.ofNat d0), .int (Int32.ofNat d1), .int (Int32.ofNat d2)] (.int 0)) (Vv : Arv Z h0 tv kv .float 3 [.float f0, .float f1, .float f2] (.float 0)) (Vz : Arv Z h0 tz kz .double 8 vz (.double 0)) (hz : ∀ i, i < 8 → vz.getD i (.double 0) = .double (gd i)) : W.MetN l Z (⟨"com/example/intent_search/intentsearch/rank/CategoryVector", "dot", "([D)D"⟩ : MethodName) prog_31_method_5_code 5 ((Option.some Jvm.ClassFile.FieldType.double)) [] ({ frames := 0, cells := 0, slots := 0, locals := 0 } : Room) #[.ref x, .ref tz]  h0 (W.Pure (some (.double (FP.dadd (FP.dadd (FP.dadd (0 : UInt64) (FP.dmul (FP.f2d f0) (gd d0))) (FP.dmul (FP.f2d f1) (gd d1))) (FP.dmul (FP.f2d f2) (gd d2))))) h0) := by
  refine W.MetN.mk (ls0 := #[.val (.ref x), .val (.ref tz), .unset, .unset, .unset]) [] (plainFor_of_name pn_com_example_intent_search_intentsearch_rank_CategoryVector) (fun m => by first | (simp [entryFrame, mkF, argsToLocals, Value.category]; done) | rfl) ?_
  intro p e s m below meth c s₁ hml hret hnm hlk P0
  show W.Go p.tables e below _ (s₁.setTop (mkF m 0 #[.val (.ref x), .val (.ref tz), .unset, .unset, .unset] []))
  refine W.g_dconst0 (pc1 := 1) P0.q d4_0 rfl ?_
  refine W.g_dstoreN (pc1 := 2) (ls2 := #[.val (.ref x), .val (.ref tz), .val (.double (0 : UInt64)), .second, .unset]) P0.q d4_1 rfl rfl ?_
  refine W.g_iconst (pc1 := 3) (v := (0 : Int32)) P0.q d4_2 (by decide) rfl ?_
  refine W.g_istore (pc1 := 5) (ls2 := #[.val (.ref x), .val (.ref tz), .val (.double (0 : UInt64)), .second, .val (.int (0 : Int32))]) P0.q d4_3 rfl rfl ?_
  refine W.g_iload (pc1 := 7) P0.q d4_5 rfl rfl ?_
  refine W.g_aloadN (pc1 := 8) P0.q d4_7 rfl rfl rfl ?_
  refine P0.getF (host := "") (pc1 := 11) (Or.inl (wd hw (k := 18) rfl)) Via.refl Fd d4_8 rfl ?_
  intro T116 P116
  refine P116.len (pc1 := 12) Vd d4_11 rfl ?_
  refine W.g_cmpN (pc2 := 15) P116.q d4_12 rfl (by decide) ?_
  refine W.g_dloadN (pc1 := 16) P116.q d4_15 rfl rfl ?_
  refine W.g_aloadN (pc1 := 17) P116.q d4_16 rfl rfl rfl ?_
  refine P116.getF (host := "") (pc1 := 20) (Or.inl (wd hw (k := 20) rfl)) Via.refl Fv d4_17 rfl ?_
  intro T117 P117
  refine W.g_iload (pc1 := 22) P117.q d4_20 rfl rfl ?_
  refine P117.ldF (pc1 := 23) (v := (.float f0)) Vv (by decide) (by decide) rfl d4_22 rfl ?_
  refine W.g_f2d (pc1 := 24) P117.q d4_23 hf0 rfl ?_
  refine W.g_aloadN (pc1 := 25) P117.q d4_24 rfl rfl rfl ?_
  refine W.g_aloadN (pc1 := 26) P117.q d4_25 rfl rfl rfl ?_
  refine P117.getF (host := "") (pc1 := 29) (Or.inl (wd hw (k := 18) rfl)) Via.refl Fd d4_26 rfl ?_
  intro T118 P118
  refine W.g_iload (pc1 := 31) P118.q d4_29 rfl rfl ?_
  refine P118.ldI (pc1 := 32) (v := (.int (Int32.ofNat d0))) Vd (by decide) (by decide) rfl d4_31 rfl ?_
  refine P118.ldD (pc1 := 33) (v := (.double (gd d0))) Vz (own_nn32 (by omega)) (by rw [own_n32 (by omega)]; exact hd0) (by rw [own_n32 (by omega)]; exact hz d0 hd0) d4_32 rfl ?_
  refine W.g_dmul (pc1 := 34) P118.q d4_33 hm0 rfl ?_
  refine W.g_dadd (pc1 := 35) P118.q d4_34 ha0 rfl ?_
  refine W.g_dstoreN (pc1 := 36) (ls2 := #[.val (.ref x), .val (.ref tz), .val (.double (FP.dadd (0 : UInt64) (FP.dmul (FP.f2d f0) (gd d0)))), .second, .val (.int (0 : Int32))]) P118.q d4_35 rfl rfl ?_
  refine W.g_iinc (pc1 := 39) (ls2 := #[.val (.ref x), .val (.ref tz), .val (.double (FP.dadd (0 : UInt64) (FP.dmul (FP.f2d f0) (gd d0)))), .second, .val (.int ((0 : Int32) + Int32.ofInt 1))]) P118.q d4_36 rfl rfl rfl ?_
  refine W.g_goto (pc1 := 5) P118.q d4_39 (by decide) rfl ?_
  refine W.g_iload (pc1 := 7) P118.q d4_5 rfl rfl ?_
  refine W.g_aloadN (pc1 := 8) P118.q d4_7 rfl rfl rfl ?_
  refine P118.getF (host := "") (pc1 := 11) (Or.inl (wd hw (k := 18) rfl)) Via.refl Fd d4_8 rfl ?_
  intro T119 P119
  refine P119.len (pc1 := 12) Vd d4_11 rfl ?_
  show W.Go p.tables e below _ (T119.setTop (mkF m 12 #[.val (.ref x), .val (.ref tz), .val (.double (FP.dadd (0 : UInt64) (FP.dmul (FP.f2d f0) (gd d0)))), .second, .val (.int (1 : Int32))] [.int 3, .int 1]))
  refine W.g_cmpN (pc2 := 15) P119.q d4_12 rfl (by decide) ?_
  refine W.g_dloadN (pc1 := 16) P119.q d4_15 rfl rfl ?_
  refine W.g_aloadN (pc1 := 17) P119.q d4_16 rfl rfl rfl ?_
  refine P119.getF (host := "") (pc1 := 20) (Or.inl (wd hw (k := 20) rfl)) Via.refl Fv d4_17 rfl ?_
  intro T120 P120
  refine W.g_iload (pc1 := 22) P120.q d4_20 rfl rfl ?_
  refine P120.ldF (pc1 := 23) (v := (.float f1)) Vv (by decide) (by decide) rfl d4_22 rfl ?_
  refine W.g_f2d (pc1 := 24) P120.q d4_23 hf1 rfl ?_
  refine W.g_aloadN (pc1 := 25) P120.q d4_24 rfl rfl rfl ?_
  refine W.g_aloadN (pc1 := 26) P120.q d4_25 rfl rfl rfl ?_
  refine P120.getF (host := "") (pc1 := 29) (Or.inl (wd hw (k := 18) rfl)) Via.refl Fd d4_26 rfl ?_
  intro T121 P121
  refine W.g_iload (pc1 := 31) P121.q d4_29 rfl rfl ?_
  refine P121.ldI (pc1 := 32) (v := (.int (Int32.ofNat d1))) Vd (by decide) (by decide) rfl d4_31 rfl ?_
  refine P121.ldD (pc1 := 33) (v := (.double (gd d1))) Vz (own_nn32 (by omega)) (by rw [own_n32 (by omega)]; exact hd1) (by rw [own_n32 (by omega)]; exact hz d1 hd1) d4_32 rfl ?_
  refine W.g_dmul (pc1 := 34) P121.q d4_33 hm1 rfl ?_
  refine W.g_dadd (pc1 := 35) P121.q d4_34 ha1 rfl ?_
  refine W.g_dstoreN (pc1 := 36) (ls2 := #[.val (.ref x), .val (.ref tz), .val (.double (FP.dadd (FP.dadd (0 : UInt64) (FP.dmul (FP.f2d f0) (gd d0))) (FP.dmul (FP.f2d f1) (gd d1)))), .second, .val (.int (1 : Int32))]) P121.q d4_35 rfl rfl ?_
  refine W.g_iinc (pc1 := 39) (ls2 := #[.val (.ref x), .val (.ref tz), .val (.double (FP.dadd (FP.dadd (0 : UInt64) (FP.dmul (FP.f2d f0) (gd d0))) (FP.dmul (FP.f2d f1) (gd d1)))), .second, .val (.int ((1 : Int32) + Int32.ofInt 1))]) P121.q d4_36 rfl rfl rfl ?_
  refine W.g_goto (pc1 := 5) P121.q d4_39 (by decide) rfl ?_
  refine W.g_iload (pc1 := 7) P121.q d4_5 rfl rfl ?_
  refine W.g_aloadN (pc1 := 8) P121.q d4_7 rfl rfl rfl ?_
  refine P121.getF (host := "") (pc1 := 11) (Or.inl (wd hw (k := 18) rfl)) Via.refl Fd d4_8 rfl ?_
  intro T122 P122
  refine P122.len (pc1 := 12) Vd d4_11 rfl ?_
  show W.Go p.tables e below _ (T122.setTop (mkF m 12 #[.val (.ref x), .val (.ref tz), .val (.double (FP.dadd (FP.dadd (0 : UInt64) (FP.dmul (FP.f2d f0) (gd d0))) (FP.dmul (FP.f2d f1) (gd d1)))), .second, .val (.int (2 : Int32))] [.int 3, .int 2]))
  refine W.g_cmpN (pc2 := 15) P122.q d4_12 rfl (by decide) ?_
  refine W.g_dloadN (pc1 := 16) P122.q d4_15 rfl rfl ?_
  refine W.g_aloadN (pc1 := 17) P122.q d4_16 rfl rfl rfl ?_
  refine P122.getF (host := "") (pc1 := 20) (Or.inl (wd hw (k := 20) rfl)) Via.refl Fv d4_17 rfl ?_
  intro T123 P123
  refine W.g_iload (pc1 := 22) P123.q d4_20 rfl rfl ?_
  refine P123.ldF (pc1 := 23) (v := (.float f2)) Vv (by decide) (by decide) rfl d4_22 rfl ?_
  refine W.g_f2d (pc1 := 24) P123.q d4_23 hf2 rfl ?_
  refine W.g_aloadN (pc1 := 25) P123.q d4_24 rfl rfl rfl ?_
  refine W.g_aloadN (pc1 := 26) P123.q d4_25 rfl rfl rfl ?_
  refine P123.getF (host := "") (pc1 := 29) (Or.inl (wd hw (k := 18) rfl)) Via.refl Fd d4_26 rfl ?_
  intro T124 P124
  refine W.g_iload (pc1 := 31) P124.q d4_29 rfl rfl ?_
  refine P124.ldI (pc1 := 32) (v := (.int (Int32.ofNat d2))) Vd (by decide) (by decide) rfl d4_31 rfl ?_
  refine P124.ldD (pc1 := 33) (v := (.double (gd d2))) Vz (own_nn32 (by omega)) (by rw [own_n32 (by omega)]; exact hd2) (by rw [own_n32 (by omega)]; exact hz d2 hd2) d4_32 rfl ?_
  refine W.g_dmul (pc1 := 34) P124.q d4_33 hm2 rfl ?_
  refine W.g_dadd (pc1 := 35) P124.q d4_34 ha2 rfl ?_
  refine W.g_dstoreN (pc1 := 36) (ls2 := #[.val (.ref x), .val (.ref tz), .val (.double (FP.dadd (FP.dadd (FP.dadd (0 : UInt64) (FP.dmul (FP.f2d f0) (gd d0))) (FP.dmul (FP.f2d f1) (gd d1))) (FP.dmul (FP.f2d f2) (gd d2)))), .second, .val (.int (2 : Int32))]) P124.q d4_35 rfl rfl ?_
  refine W.g_iinc (pc1 := 39) (ls2 := #[.val (.ref x), .val (.ref tz), .val (.double (FP.dadd (FP.dadd (FP.dadd (0 : UInt64) (FP.dmul (FP.f2d f0) (gd d0))) (FP.dmul (FP.f2d f1) (gd d1))) (FP.dmul (FP.f2d f2) (gd d2)))), .second, .val (.int ((2 : Int32) + Int32.ofInt 1))]) P124.q d4_36 rfl rfl rfl ?_
  refine W.g_goto (pc1 := 5) P124.q d4_39 (by decide) rfl ?_
  refine W.g_iload (pc1 := 7) P124.q d4_5 rfl rfl ?_
  refine W.g_aloadN (pc1 := 8) P124.q d4_7 rfl rfl rfl ?_
  refine P124.getF (host := "") (pc1 := 11) (Or.inl (wd hw (k := 18) rfl)) Via.refl Fd d4_8 rfl ?_
  intro T125 P125
  refine P125.len (pc1 := 12) Vd d4_11 rfl ?_
  show W.Go p.tables e below _ (T125.setTop (mkF m 12 #[.val (.ref x), .val (.ref tz), .val (.double (FP.dadd (FP.dadd (FP.dadd (0 : UInt64) (FP.dmul (FP.f2d f0) (gd d0))) (FP.dmul (FP.f2d f1) (gd d1))) (FP.dmul (FP.f2d f2) (gd d2)))), .second, .val (.int (3 : Int32))] [.int 3, .int 3]))
  refine W.g_cmpY (pc1 := 42) P125.q d4_12 (by decide) rfl (by decide) ?_
  refine W.g_dloadN (pc1 := 43) P125.q d4_42 rfl rfl ?_
  exact P125.retDN hlk hret d4_43 (by decide) (by decide) ⟨rfl, rfl, rfl⟩
theorem own_b {w : Int64} (h : -32768 ≤ w.toInt ∧ w.toInt ≤ 32767) : -9007199254740992 < w.toInt ∧ w.toInt < 9007199254740992 := by omega
theorem own_mulb {v w : Int} (hv : -16777216 ≤ v ∧ v ≤ 16777216) (hw : -32768 ≤ w ∧ w ≤ 32767) : -549755813888 ≤ v * w ∧ v * w ≤ 549755813888 := by
  have h : (v * w).natAbs ≤ 16777216 * 32768 := by rw [Int.natAbs_mul]; exact Nat.mul_le_mul (by omega) (by omega)
  omega
theorem own_mulL {v : Int32} {w : Int64} (hv : Mg v) (hw : -32768 ≤ w.toInt ∧ w.toInt ≤ 32767) : (v.toInt64 * w).toInt = v.toInt * w.toInt := by
  have h := own_mulb hv hw
  rw [Int64.toInt_mul, Int32.toInt_toInt64, Int.bmod_eq_of_le (by omega) (by omega)]
theorem own_addL {a b : Int64} {x y : Int} (ha : a.toInt = x) (hb : b.toInt = y) (h : -4611686018427387904 ≤ x ∧ x ≤ 4611686018427387904) (h2 : -4611686018427387904 ≤ y ∧ y < 4611686018427387904) : (a + b).toInt = x + y := by
  rw [Int64.toInt_add, ha, hb, Int.bmod_eq_of_le (by omega) (by omega)]
def Q1 (n : Nat) (v : Option Value) (h : Heap) (L : List Loc) : Prop := v = some (.int 1) ∧ W.Frw [] n L
set_option maxRecDepth 65536 in
set_option maxHeartbeats 40000000 in
theorem rm1 (l : Launch) (Z : State) (a0 : Array Value) (hw : ∀ d ∈ tables_1, d.before a0 Z = true) (a x0 x1 x2 : Int32) (p0 q0 : Int64) (h0 : Heap) : W.MetN l Z x code maxLocals (ret) tables_1 room_1 #[.int a, .int x0, .int x1, .int x2, .long p0, .long q0]  h0 (Q1 h0.size) := by
  refine W.MetN.mk (ls0 := #[.val (.int a), .val (.int x0), .val (.int x1), .val (.int x2), .val (.long p0), .second, .val (.long q0), .second, .unset, .unset, .unset, .unset, .unset, .unset, .unset, .unset, .unset, .unset, .unset, .unset, .unset, .unset, .unset]) [] (plainFor_of_name pn_com_example_intent_search_intentsearch_rank_CategoryVectorDotPinLaw) (fun m => by first | (simp [entryFrame, mkF, argsToLocals, Value.category, maxLocals]; done) | rfl) ?_
  intro p e s m below meth c s₁ hml hret hnm hlk P0
  have hml : c.maxLocals = 23 := hml
  show W.Go p.tables e below _ (s₁.setTop (mkF m 0 #[.val (.int a), .val (.int x0), .val (.int x1), .val (.int x2), .val (.long p0), .second, .val (.long q0), .second, .unset, .unset, .unset, .unset, .unset, .unset, .unset, .unset, .unset, .unset, .unset, .unset, .unset, .unset, .unset] []))
  refine W.g_iloadN (pc1 := 1) P0.q at_0 rfl rfl ?_
  refine W.g_iconst (pc1 := 2) (v := (3 : Int32)) P0.q at_1 (by decide) rfl ?_
  refine W.g_iand (pc1 := 3) P0.q at_2 rfl ?_
  generalize hnv : a &&& 3 = nv
  show W.Go p.tables e below _ (s₁.setTop (mkF m 3 #[.val (.int a), .val (.int x0), .val (.int x1), .val (.int x2), .val (.long p0), .second, .val (.long q0), .second, .unset, .unset, .unset, .unset, .unset, .unset, .unset, .unset, .unset, .unset, .unset, .unset, .unset, .unset, .unset] [(.int nv)]))
  refine W.g_istore (pc1 := 5) (ls2 := #[.val (.int a), .val (.int x0), .val (.int x1), .val (.int x2), .val (.long p0), .second, .val (.long q0), .second, .val (.int nv), .unset, .unset, .unset, .unset, .unset, .unset, .unset, .unset, .unset, .unset, .unset, .unset, .unset, .unset]) P0.q at_3 rfl rfl ?_
  refine W.g_iloadN (pc1 := 6) P0.q at_5 rfl rfl ?_
  refine W.g_iconst (pc1 := 7) (v := (2 : Int32)) P0.q at_6 (by decide) rfl ?_
  refine W.g_iushr (pc1 := 8) P0.q at_7 rfl ?_
  refine W.g_iconst (pc1 := 9) (v := (3 : Int32)) P0.q at_8 (by decide) rfl ?_
  refine W.g_iand (pc1 := 10) P0.q at_9 rfl ?_
  obtain ⟨d0, hd0, e0⟩ := own_m3 (Jvm.Free.XT.ushr a 2)
  rw [e0]
  refine W.g_istore (pc1 := 12) (ls2 := #[.val (.int a), .val (.int x0), .val (.int x1), .val (.int x2), .val (.long p0), .second, .val (.long q0), .second, .val (.int nv), .val (.int (Int32.ofNat d0)), .unset, .unset, .unset, .unset, .unset, .unset, .unset, .unset, .unset, .unset, .unset, .unset, .unset]) P0.q at_10 rfl rfl ?_
  refine W.g_iload (pc1 := 14) P0.q at_12 rfl rfl ?_
  refine W.g_iconst (pc1 := 15) (v := (1 : Int32)) P0.q at_14 (by decide) rfl ?_
  refine W.g_iadd (pc1 := 16) P0.q at_15 rfl ?_
  rw [add1]
  refine W.g_iloadN (pc1 := 17) P0.q at_16 rfl rfl ?_
  refine W.g_iconst (pc1 := 18) (v := (4 : Int32)) P0.q at_17 (by decide) rfl ?_
  refine W.g_iushr (pc1 := 19) P0.q at_18 rfl ?_
  refine W.g_iconst (pc1 := 20) (v := (1 : Int32)) P0.q at_19 (by decide) rfl ?_
  refine W.g_iand (pc1 := 21) P0.q at_20 rfl ?_
  obtain ⟨b1, hb1, eb1⟩ := own_m1 (Jvm.Free.XT.ushr a 4)
  rw [eb1]
  refine W.g_iadd (pc1 := 22) P0.q at_21 rfl ?_
  rw [add32]
  obtain ⟨d1, ed1⟩ : ∃ d, d = d0 + 1 + b1 := ⟨_, rfl⟩
  rw [← ed1]
  refine W.g_istore (pc1 := 24) (ls2 := #[.val (.int a), .val (.int x0), .val (.int x1), .val (.int x2), .val (.long p0), .second, .val (.long q0), .second, .val (.int nv), .val (.int (Int32.ofNat d0)), .val (.int (Int32.ofNat d1)), .unset, .unset, .unset, .unset, .unset, .unset, .unset, .unset, .unset, .unset, .unset, .unset]) P0.q at_22 rfl rfl ?_
  refine W.g_iload (pc1 := 26) P0.q at_24 rfl rfl ?_
  refine W.g_iconst (pc1 := 27) (v := (1 : Int32)) P0.q at_26 (by decide) rfl ?_
  refine W.g_iadd (pc1 := 28) P0.q at_27 rfl ?_
  rw [add1]
  refine W.g_iloadN (pc1 := 29) P0.q at_28 rfl rfl ?_
  refine W.g_iconst (pc1 := 30) (v := (5 : Int32)) P0.q at_29 (by decide) rfl ?_
  refine W.g_iushr (pc1 := 31) P0.q at_30 rfl ?_
  refine W.g_iconst (pc1 := 32) (v := (1 : Int32)) P0.q at_31 (by decide) rfl ?_
  refine W.g_iand (pc1 := 33) P0.q at_32 rfl ?_
  obtain ⟨b2, hb2, eb2⟩ := own_m1 (Jvm.Free.XT.ushr a 5)
  rw [eb2]
  refine W.g_iadd (pc1 := 34) P0.q at_33 rfl ?_
  rw [add32]
  obtain ⟨d2, ed2⟩ : ∃ d, d = d1 + 1 + b2 := ⟨_, rfl⟩
  rw [← ed2]
  show W.Go p.tables e below _ (s₁.setTop (mkF m 34 #[.val (.int a), .val (.int x0), .val (.int x1), .val (.int x2), .val (.long p0), .second, .val (.long q0), .second, .val (.int nv), .val (.int (Int32.ofNat d0)), .val (.int (Int32.ofNat d1)), .unset, .unset, .unset, .unset, .unset, .unset, .unset, .unset, .unset, .unset, .unset, .unset] [(.int (Int32.ofNat d2))]))
  refine W.g_istore (pc1 := 36) (ls2 := #[.val (.int a), .val (.int x0), .val (.int x1), .val (.int x2), .val (.long p0), .second, .val (.long q0), .second, .val (.int nv), .val (.int (Int32.ofNat d0)), .val (.int (Int32.ofNat d1)), .val (.int (Int32.ofNat d2)), .unset, .unset, .unset, .unset, .unset, .unset, .unset, .unset, .unset, .unset, .unset]) P0.q at_34 rfl rfl ?_
  refine W.g_iloadN (pc1 := 37) P0.q at_36 rfl rfl ?_
  refine P0.callS (pc1 := 40) (wd hw (k := 0) rfl) (wd hw (k := 1) rfl) (wd hw (k := 2) rfl) (wd hw (k := 3) rfl) (by decide) (W.MetN.pay (W := 0) (c_mag l Z a0 hw _ h0) P0 (wd hw (k := 3) rfl) (wd hw (k := 2) rfl) (by decide) (by decide)) (argsL := [(.int x0)]) (st0 := []) (lenOf pd_I_R_I rfl) rfl rfl (Nat.le_of_eq rfl) (by rw [hml]; rfl) (by decide) (by decide) (QMg.ok P0.chv) at_37 rfl ?_
  intro v126 T126 h126 L126 q126 P126
  obtain ⟨rfl, rfl, v0, rfl, hv0⟩ := q126
  show W.Go p.tables e below _ (T126.setTop (mkF m 40 #[.val (.int a), .val (.int x0), .val (.int x1), .val (.int x2), .val (.long p0), .second, .val (.long q0), .second, .val (.int nv), .val (.int (Int32.ofNat d0)), .val (.int (Int32.ofNat d1)), .val (.int (Int32.ofNat d2)), .unset, .unset, .unset, .unset, .unset, .unset, .unset, .unset, .unset, .unset, .unset] [(.int v0)]))
  refine W.g_istore (pc1 := 42) (ls2 := #[.val (.int a), .val (.int x0), .val (.int x1), .val (.int x2), .val (.long p0), .second, .val (.long q0), .second, .val (.int nv), .val (.int (Int32.ofNat d0)), .val (.int (Int32.ofNat d1)), .val (.int (Int32.ofNat d2)), .val (.int v0), .unset, .unset, .unset, .unset, .unset, .unset, .unset, .unset, .unset, .unset]) P126.q at_40 rfl rfl ?_
  refine W.g_iloadN (pc1 := 43) P126.q at_42 rfl rfl ?_
  refine P126.callS (pc1 := 46) (wd hw (k := 0) rfl) (wd hw (k := 1) rfl) (wd hw (k := 2) rfl) (wd hw (k := 3) rfl) (by decide) (W.MetN.pay (W := 0) (c_mag l Z a0 hw _ h0) P126 (wd hw (k := 3) rfl) (wd hw (k := 2) rfl) (by decide) (by decide)) (argsL := [(.int x1)]) (st0 := []) (lenOf pd_I_R_I rfl) rfl rfl (Nat.le_of_eq rfl) (by rw [hml]; rfl) (by decide) (by decide) (QMg.ok P126.chv) at_43 rfl ?_
  intro v127 T127 h127 L127 q127 P127
  obtain ⟨rfl, rfl, v1, rfl, hv1⟩ := q127
  show W.Go p.tables e below _ (T127.setTop (mkF m 46 #[.val (.int a), .val (.int x0), .val (.int x1), .val (.int x2), .val (.long p0), .second, .val (.long q0), .second, .val (.int nv), .val (.int (Int32.ofNat d0)), .val (.int (Int32.ofNat d1)), .val (.int (Int32.ofNat d2)), .val (.int v0), .unset, .unset, .unset, .unset, .unset, .unset, .unset, .unset, .unset, .unset] [(.int v1)]))
  refine W.g_istore (pc1 := 48) (ls2 := #[.val (.int a), .val (.int x0), .val (.int x1), .val (.int x2), .val (.long p0), .second, .val (.long q0), .second, .val (.int nv), .val (.int (Int32.ofNat d0)), .val (.int (Int32.ofNat d1)), .val (.int (Int32.ofNat d2)), .val (.int v0), .val (.int v1), .unset, .unset, .unset, .unset, .unset, .unset, .unset, .unset, .unset]) P127.q at_46 rfl rfl ?_
  refine W.g_iloadN (pc1 := 49) P127.q at_48 rfl rfl ?_
  refine P127.callS (pc1 := 52) (wd hw (k := 0) rfl) (wd hw (k := 1) rfl) (wd hw (k := 2) rfl) (wd hw (k := 3) rfl) (by decide) (W.MetN.pay (W := 0) (c_mag l Z a0 hw _ h0) P127 (wd hw (k := 3) rfl) (wd hw (k := 2) rfl) (by decide) (by decide)) (argsL := [(.int x2)]) (st0 := []) (lenOf pd_I_R_I rfl) rfl rfl (Nat.le_of_eq rfl) (by rw [hml]; rfl) (by decide) (by decide) (QMg.ok P127.chv) at_49 rfl ?_
  intro v128 T128 h128 L128 q128 P128
  obtain ⟨rfl, rfl, v2, rfl, hv2⟩ := q128
  show W.Go p.tables e below _ (T128.setTop (mkF m 52 #[.val (.int a), .val (.int x0), .val (.int x1), .val (.int x2), .val (.long p0), .second, .val (.long q0), .second, .val (.int nv), .val (.int (Int32.ofNat d0)), .val (.int (Int32.ofNat d1)), .val (.int (Int32.ofNat d2)), .val (.int v0), .val (.int v1), .unset, .unset, .unset, .unset, .unset, .unset, .unset, .unset, .unset] [(.int v2)]))
  refine W.g_istore (pc1 := 54) (ls2 := #[.val (.int a), .val (.int x0), .val (.int x1), .val (.int x2), .val (.long p0), .second, .val (.long q0), .second, .val (.int nv), .val (.int (Int32.ofNat d0)), .val (.int (Int32.ofNat d1)), .val (.int (Int32.ofNat d2)), .val (.int v0), .val (.int v1), .val (.int v2), .unset, .unset, .unset, .unset, .unset, .unset, .unset, .unset]) P128.q at_52 rfl rfl ?_
  refine W.g_bipush (pc1 := 56) (v := (8 : Int32)) P128.q at_54 (by decide) rfl ?_
  refine P128.newP (pc1 := 58) (cap := 8) (wd hw (k := 5) rfl) (by decide) (by decide) (by decide) (by decide) (by decide) at_56 rfl ?_
  intro T129 h129 x129 k129 g129 P129 E129 V129
  refine W.g_astore (pc1 := 60) (ls2 := #[.val (.int a), .val (.int x0), .val (.int x1), .val (.int x2), .val (.long p0), .second, .val (.long q0), .second, .val (.int nv), .val (.int (Int32.ofNat d0)), .val (.int (Int32.ofNat d1)), .val (.int (Int32.ofNat d2)), .val (.int v0), .val (.int v1), .val (.int v2), .val (.ref x129), .unset, .unset, .unset, .unset, .unset, .unset, .unset]) P129.q at_58 rfl rfl rfl ?_
  refine W.g_aload (pc1 := 62) P129.q at_60 rfl rfl rfl ?_
  refine W.g_iconst (pc1 := 63) (v := (0 : Int32)) P129.q at_62 (by decide) rfl ?_
  refine W.g_lload (pc1 := 65) P129.q at_63 rfl rfl ?_
  refine W.g_l2i (pc1 := 66) P129.q at_65 rfl ?_
  refine W.g_i2s (pc1 := 67) P129.q at_66 rfl ?_
  refine W.g_i2l (pc1 := 68) P129.q at_67 rfl ?_
  have hs0 := own_sh p0.toInt32
  generalize (p0.toInt32.toInt16.toInt32.toInt64) = w0 at hs0
  show W.Go p.tables e below _ (T129.setTop (mkF m 68 #[.val (.int a), .val (.int x0), .val (.int x1), .val (.int x2), .val (.long p0), .second, .val (.long q0), .second, .val (.int nv), .val (.int (Int32.ofNat d0)), .val (.int (Int32.ofNat d1)), .val (.int (Int32.ofNat d2)), .val (.int v0), .val (.int v1), .val (.int v2), .val (.ref x129), .unset, .unset, .unset, .unset, .unset, .unset, .unset] [(.long w0), (.int (0 : Int32)), (.ref x129)]))
  refine P129.stJ (pc1 := 69) (i := 0) V129 (by decide) (by decide) (Nat.le_of_ble_eq_true rfl) rfl (Or.inr (by rw [g129]; exact P128.sz)) (Safe.arv P129.al V129 (by decide)) at_68 rfl ?_
  intro T130 h130 P130 W130 V130
  refine W.g_aload (pc1 := 71) P130.q at_69 rfl rfl rfl ?_
  refine W.g_iconst (pc1 := 72) (v := (1 : Int32)) P130.q at_71 (by decide) rfl ?_
  refine W.g_lload (pc1 := 74) P130.q at_72 rfl rfl ?_
  refine W.g_bipush (pc1 := 76) (v := (16 : Int32)) P130.q at_74 (by decide) rfl ?_
  refine W.g_lshr (pc1 := 77) P130.q at_76 rfl ?_
  refine W.g_l2i (pc1 := 78) P130.q at_77 rfl ?_
  refine W.g_i2s (pc1 := 79) P130.q at_78 rfl ?_
  refine W.g_i2l (pc1 := 80) P130.q at_79 rfl ?_
  have hs1 := own_sh (p0 >>> ((16 : Int32).toInt64 &&& 63)).toInt32
  generalize ((p0 >>> ((16 : Int32).toInt64 &&& 63)).toInt32.toInt16.toInt32.toInt64) = w1 at hs1
  show W.Go p.tables e below _ (T130.setTop (mkF m 80 #[.val (.int a), .val (.int x0), .val (.int x1), .val (.int x2), .val (.long p0), .second, .val (.long q0), .second, .val (.int nv), .val (.int (Int32.ofNat d0)), .val (.int (Int32.ofNat d1)), .val (.int (Int32.ofNat d2)), .val (.int v0), .val (.int v1), .val (.int v2), .val (.ref x129), .unset, .unset, .unset, .unset, .unset, .unset, .unset] [(.long w1), (.int (1 : Int32)), (.ref x129)]))
  refine P130.stJ (pc1 := 81) (i := 1) V130 (by decide) (by decide) (Nat.le_of_ble_eq_true rfl) rfl (Or.inr (by rw [g129]; exact P128.sz)) (Safe.arv P130.al V130 (by decide)) at_80 rfl ?_
  intro T131 h131 P131 W131 V131
  refine W.g_aload (pc1 := 83) P131.q at_81 rfl rfl rfl ?_
  refine W.g_iconst (pc1 := 84) (v := (2 : Int32)) P131.q at_83 (by decide) rfl ?_
  refine W.g_lload (pc1 := 86) P131.q at_84 rfl rfl ?_
  refine W.g_bipush (pc1 := 88) (v := (32 : Int32)) P131.q at_86 (by decide) rfl ?_
  refine W.g_lshr (pc1 := 89) P131.q at_88 rfl ?_
  refine W.g_l2i (pc1 := 90) P131.q at_89 rfl ?_
  refine W.g_i2s (pc1 := 91) P131.q at_90 rfl ?_
  refine W.g_i2l (pc1 := 92) P131.q at_91 rfl ?_
  have hs2 := own_sh (p0 >>> ((32 : Int32).toInt64 &&& 63)).toInt32
  generalize ((p0 >>> ((32 : Int32).toInt64 &&& 63)).toInt32.toInt16.toInt32.toInt64) = w2 at hs2
  show W.Go p.tables e below _ (T131.setTop (mkF m 92 #[.val (.int a), .val (.int x0), .val (.int x1), .val (.int x2), .val (.long p0), .second, .val (.long q0), .second, .val (.int nv), .val (.int (Int32.ofNat d0)), .val (.int (Int32.ofNat d1)), .val (.int (Int32.ofNat d2)), .val (.int v0), .val (.int v1), .val (.int v2), .val (.ref x129), .unset, .unset, .unset, .unset, .unset, .unset, .unset] [(.long w2), (.int (2 : Int32)), (.ref x129)]))
  refine P131.stJ (pc1 := 93) (i := 2) V131 (by decide) (by decide) (Nat.le_of_ble_eq_true rfl) rfl (Or.inr (by rw [g129]; exact P128.sz)) (Safe.arv P131.al V131 (by decide)) at_92 rfl ?_
  intro T132 h132 P132 W132 V132
  refine W.g_aload (pc1 := 95) P132.q at_93 rfl rfl rfl ?_
  refine W.g_iconst (pc1 := 96) (v := (3 : Int32)) P132.q at_95 (by decide) rfl ?_
  refine W.g_lload (pc1 := 98) P132.q at_96 rfl rfl ?_
  refine W.g_bipush (pc1 := 100) (v := (48 : Int32)) P132.q at_98 (by decide) rfl ?_
  refine W.g_lshr (pc1 := 101) P132.q at_100 rfl ?_
  refine W.g_l2i (pc1 := 102) P132.q at_101 rfl ?_
  refine W.g_i2s (pc1 := 103) P132.q at_102 rfl ?_
  refine W.g_i2l (pc1 := 104) P132.q at_103 rfl ?_
  have hs3 := own_sh (p0 >>> ((48 : Int32).toInt64 &&& 63)).toInt32
  generalize ((p0 >>> ((48 : Int32).toInt64 &&& 63)).toInt32.toInt16.toInt32.toInt64) = w3 at hs3
  show W.Go p.tables e below _ (T132.setTop (mkF m 104 #[.val (.int a), .val (.int x0), .val (.int x1), .val (.int x2), .val (.long p0), .second, .val (.long q0), .second, .val (.int nv), .val (.int (Int32.ofNat d0)), .val (.int (Int32.ofNat d1)), .val (.int (Int32.ofNat d2)), .val (.int v0), .val (.int v1), .val (.int v2), .val (.ref x129), .unset, .unset, .unset, .unset, .unset, .unset, .unset] [(.long w3), (.int (3 : Int32)), (.ref x129)]))
  refine P132.stJ (pc1 := 105) (i := 3) V132 (by decide) (by decide) (Nat.le_of_ble_eq_true rfl) rfl (Or.inr (by rw [g129]; exact P128.sz)) (Safe.arv P132.al V132 (by decide)) at_104 rfl ?_
  intro T133 h133 P133 W133 V133
  refine W.g_aload (pc1 := 107) P133.q at_105 rfl rfl rfl ?_
  refine W.g_iconst (pc1 := 108) (v := (4 : Int32)) P133.q at_107 (by decide) rfl ?_
  refine W.g_lload (pc1 := 110) P133.q at_108 rfl rfl ?_
  refine W.g_l2i (pc1 := 111) P133.q at_110 rfl ?_
  refine W.g_i2s (pc1 := 112) P133.q at_111 rfl ?_
  refine W.g_i2l (pc1 := 113) P133.q at_112 rfl ?_
  have hs4 := own_sh q0.toInt32
  generalize (q0.toInt32.toInt16.toInt32.toInt64) = w4 at hs4
  show W.Go p.tables e below _ (T133.setTop (mkF m 113 #[.val (.int a), .val (.int x0), .val (.int x1), .val (.int x2), .val (.long p0), .second, .val (.long q0), .second, .val (.int nv), .val (.int (Int32.ofNat d0)), .val (.int (Int32.ofNat d1)), .val (.int (Int32.ofNat d2)), .val (.int v0), .val (.int v1), .val (.int v2), .val (.ref x129), .unset, .unset, .unset, .unset, .unset, .unset, .unset] [(.long w4), (.int (4 : Int32)), (.ref x129)]))
  refine P133.stJ (pc1 := 114) (i := 4) V133 (by decide) (by decide) (Nat.le_of_ble_eq_true rfl) rfl (Or.inr (by rw [g129]; exact P128.sz)) (Safe.arv P133.al V133 (by decide)) at_113 rfl ?_
  intro T134 h134 P134 W134 V134
  refine W.g_aload (pc1 := 116) P134.q at_114 rfl rfl rfl ?_
  refine W.g_iconst (pc1 := 117) (v := (5 : Int32)) P134.q at_116 (by decide) rfl ?_
  refine W.g_lload (pc1 := 119) P134.q at_117 rfl rfl ?_
  refine W.g_bipush (pc1 := 121) (v := (16 : Int32)) P134.q at_119 (by decide) rfl ?_
  refine W.g_lshr (pc1 := 122) P134.q at_121 rfl ?_
  refine W.g_l2i (pc1 := 123) P134.q at_122 rfl ?_
  refine W.g_i2s (pc1 := 124) P134.q at_123 rfl ?_
  refine W.g_i2l (pc1 := 125) P134.q at_124 rfl ?_
  have hs5 := own_sh (q0 >>> ((16 : Int32).toInt64 &&& 63)).toInt32
  generalize ((q0 >>> ((16 : Int32).toInt64 &&& 63)).toInt32.toInt16.toInt32.toInt64) = w5 at hs5
  show W.Go p.tables e below _ (T134.setTop (mkF m 125 #[.val (.int a), .val (.int x0), .val (.int x1), .val (.int x2), .val (.long p0), .second, .val (.long q0), .second, .val (.int nv), .val (.int (Int32.ofNat d0)), .val (.int (Int32.ofNat d1)), .val (.int (Int32.ofNat d2)), .val (.int v0), .val (.int v1), .val (.int v2), .val (.ref x129), .unset, .unset, .unset, .unset, .unset, .unset, .unset] [(.long w5), (.int (5 : Int32)), (.ref x129)]))
  refine P134.stJ (pc1 := 126) (i := 5) V134 (by decide) (by decide) (Nat.le_of_ble_eq_true rfl) rfl (Or.inr (by rw [g129]; exact P128.sz)) (Safe.arv P134.al V134 (by decide)) at_125 rfl ?_
  intro T135 h135 P135 W135 V135
  refine W.g_aload (pc1 := 128) P135.q at_126 rfl rfl rfl ?_
  refine W.g_bipush (pc1 := 130) (v := (6 : Int32)) P135.q at_128 (by decide) rfl ?_
  refine W.g_lload (pc1 := 132) P135.q at_130 rfl rfl ?_
  refine W.g_bipush (pc1 := 134) (v := (32 : Int32)) P135.q at_132 (by decide) rfl ?_
  refine W.g_lshr (pc1 := 135) P135.q at_134 rfl ?_
  refine W.g_l2i (pc1 := 136) P135.q at_135 rfl ?_
  refine W.g_i2s (pc1 := 137) P135.q at_136 rfl ?_
  refine W.g_i2l (pc1 := 138) P135.q at_137 rfl ?_
  have hs6 := own_sh (q0 >>> ((32 : Int32).toInt64 &&& 63)).toInt32
  generalize ((q0 >>> ((32 : Int32).toInt64 &&& 63)).toInt32.toInt16.toInt32.toInt64) = w6 at hs6
  show W.Go p.tables e below _ (T135.setTop (mkF m 138 #[.val (.int a), .val (.int x0), .val (.int x1), .val (.int x2), .val (.long p0), .second, .val (.long q0), .second, .val (.int nv), .val (.int (Int32.ofNat d0)), .val (.int (Int32.ofNat d1)), .val (.int (Int32.ofNat d2)), .val (.int v0), .val (.int v1), .val (.int v2), .val (.ref x129), .unset, .unset, .unset, .unset, .unset, .unset, .unset] [(.long w6), (.int (6 : Int32)), (.ref x129)]))
  refine P135.stJ (pc1 := 139) (i := 6) V135 (by decide) (by decide) (Nat.le_of_ble_eq_true rfl) rfl (Or.inr (by rw [g129]; exact P128.sz)) (Safe.arv P135.al V135 (by decide)) at_138 rfl ?_
  intro T136 h136 P136 W136 V136
  refine W.g_aload (pc1 := 141) P136.q at_139 rfl rfl rfl ?_
  refine W.g_bipush (pc1 := 143) (v := (7 : Int32)) P136.q at_141 (by decide) rfl ?_
  refine W.g_lload (pc1 := 145) P136.q at_143 rfl rfl ?_
  refine W.g_bipush (pc1 := 147) (v := (48 : Int32)) P136.q at_145 (by decide) rfl ?_
  refine W.g_lshr (pc1 := 148) P136.q at_147 rfl ?_
  refine W.g_l2i (pc1 := 149) P136.q at_148 rfl ?_
  refine W.g_i2s (pc1 := 150) P136.q at_149 rfl ?_
  refine W.g_i2l (pc1 := 151) P136.q at_150 rfl ?_
  have hs7 := own_sh (q0 >>> ((48 : Int32).toInt64 &&& 63)).toInt32
  generalize ((q0 >>> ((48 : Int32).toInt64 &&& 63)).toInt32.toInt16.toInt32.toInt64) = w7 at hs7
  show W.Go p.tables e below _ (T136.setTop (mkF m 151 #[.val (.int a), .val (.int x0), .val (.int x1), .val (.int x2), .val (.long p0), .second, .val (.long q0), .second, .val (.int nv), .val (.int (Int32.ofNat d0)), .val (.int (Int32.ofNat d1)), .val (.int (Int32.ofNat d2)), .val (.int v0), .val (.int v1), .val (.int v2), .val (.ref x129), .unset, .unset, .unset, .unset, .unset, .unset, .unset] [(.long w7), (.int (7 : Int32)), (.ref x129)]))
  refine P136.stJ (pc1 := 152) (i := 7) V136 (by decide) (by decide) (Nat.le_of_ble_eq_true rfl) rfl (Or.inr (by rw [g129]; exact P128.sz)) (Safe.arv P136.al V136 (by decide)) at_151 rfl ?_
  intro T137 h137 P137 W137 V137
  refine W.g_bipush (pc1 := 154) (v := (8 : Int32)) P137.q at_152 (by decide) rfl ?_
  refine P137.newP (pc1 := 156) (cap := 8) (wd hw (k := 6) rfl) (by decide) (by decide) (by decide) (by decide) (by decide) at_154 rfl ?_
  intro T138 h138 x138 k138 g138 P138 E138 V138
  have Vw138 := V137.ext E138
  have hne : x129 ≠ x138 := Nat.ne_of_lt (by rw [g138]; exact V137.lt)
  refine W.g_astore (pc1 := 158) (ls2 := #[.val (.int a), .val (.int x0), .val (.int x1), .val (.int x2), .val (.long p0), .second, .val (.long q0), .second, .val (.int nv), .val (.int (Int32.ofNat d0)), .val (.int (Int32.ofNat d1)), .val (.int (Int32.ofNat d2)), .val (.int v0), .val (.int v1), .val (.int v2), .val (.ref x129), .val (.ref x138), .unset, .unset, .unset, .unset, .unset, .unset]) P138.q at_156 rfl rfl rfl ?_
  refine W.g_aload (pc1 := 160) P138.q at_158 rfl rfl rfl ?_
  refine W.g_iconst (pc1 := 161) (v := (0 : Int32)) P138.q at_160 (by decide) rfl ?_
  refine W.g_aload (pc1 := 163) P138.q at_161 rfl rfl rfl ?_
  refine W.g_iconst (pc1 := 164) (v := (0 : Int32)) P138.q at_163 (by decide) rfl ?_
  refine P138.ldJ (pc1 := 165) (v := (.long w0)) Vw138 (by decide) (by decide) rfl at_164 rfl ?_
  refine W.g_l2d (pc1 := 166) P138.q at_165 rfl ?_
  refine P138.stD (pc1 := 167) (i := 0) V138 (by decide) (by decide) (Nat.le_of_ble_eq_true rfl) rfl (Or.inr (by rw [g138]; exact P137.sz)) (Safe.arv P138.al V138 (by decide)) at_166 rfl ?_
  intro T139 h139 P139 W139 V139
  have Vw139 := Vw138.other W139 hne
  refine W.g_aload (pc1 := 169) P139.q at_167 rfl rfl rfl ?_
  refine W.g_iconst (pc1 := 170) (v := (1 : Int32)) P139.q at_169 (by decide) rfl ?_
  refine W.g_aload (pc1 := 172) P139.q at_170 rfl rfl rfl ?_
  refine W.g_iconst (pc1 := 173) (v := (1 : Int32)) P139.q at_172 (by decide) rfl ?_
  refine P139.ldJ (pc1 := 174) (v := (.long w1)) Vw139 (by decide) (by decide) rfl at_173 rfl ?_
  refine W.g_l2d (pc1 := 175) P139.q at_174 rfl ?_
  refine P139.stD (pc1 := 176) (i := 1) V139 (by decide) (by decide) (Nat.le_of_ble_eq_true rfl) rfl (Or.inr (by rw [g138]; exact P137.sz)) (Safe.arv P139.al V139 (by decide)) at_175 rfl ?_
  intro T140 h140 P140 W140 V140
  have Vw140 := Vw139.other W140 hne
  refine W.g_aload (pc1 := 178) P140.q at_176 rfl rfl rfl ?_
  refine W.g_iconst (pc1 := 179) (v := (2 : Int32)) P140.q at_178 (by decide) rfl ?_
  refine W.g_aload (pc1 := 181) P140.q at_179 rfl rfl rfl ?_
  refine W.g_iconst (pc1 := 182) (v := (2 : Int32)) P140.q at_181 (by decide) rfl ?_
  refine P140.ldJ (pc1 := 183) (v := (.long w2)) Vw140 (by decide) (by decide) rfl at_182 rfl ?_
  refine W.g_l2d (pc1 := 184) P140.q at_183 rfl ?_
  refine P140.stD (pc1 := 185) (i := 2) V140 (by decide) (by decide) (Nat.le_of_ble_eq_true rfl) rfl (Or.inr (by rw [g138]; exact P137.sz)) (Safe.arv P140.al V140 (by decide)) at_184 rfl ?_
  intro T141 h141 P141 W141 V141
  have Vw141 := Vw140.other W141 hne
  refine W.g_aload (pc1 := 187) P141.q at_185 rfl rfl rfl ?_
  refine W.g_iconst (pc1 := 188) (v := (3 : Int32)) P141.q at_187 (by decide) rfl ?_
  refine W.g_aload (pc1 := 190) P141.q at_188 rfl rfl rfl ?_
  refine W.g_iconst (pc1 := 191) (v := (3 : Int32)) P141.q at_190 (by decide) rfl ?_
  refine P141.ldJ (pc1 := 192) (v := (.long w3)) Vw141 (by decide) (by decide) rfl at_191 rfl ?_
  refine W.g_l2d (pc1 := 193) P141.q at_192 rfl ?_
  refine P141.stD (pc1 := 194) (i := 3) V141 (by decide) (by decide) (Nat.le_of_ble_eq_true rfl) rfl (Or.inr (by rw [g138]; exact P137.sz)) (Safe.arv P141.al V141 (by decide)) at_193 rfl ?_
  intro T142 h142 P142 W142 V142
  have Vw142 := Vw141.other W142 hne
  refine W.g_aload (pc1 := 196) P142.q at_194 rfl rfl rfl ?_
  refine W.g_iconst (pc1 := 197) (v := (4 : Int32)) P142.q at_196 (by decide) rfl ?_
  refine W.g_aload (pc1 := 199) P142.q at_197 rfl rfl rfl ?_
  refine W.g_iconst (pc1 := 200) (v := (4 : Int32)) P142.q at_199 (by decide) rfl ?_
  refine P142.ldJ (pc1 := 201) (v := (.long w4)) Vw142 (by decide) (by decide) rfl at_200 rfl ?_
  refine W.g_l2d (pc1 := 202) P142.q at_201 rfl ?_
  refine P142.stD (pc1 := 203) (i := 4) V142 (by decide) (by decide) (Nat.le_of_ble_eq_true rfl) rfl (Or.inr (by rw [g138]; exact P137.sz)) (Safe.arv P142.al V142 (by decide)) at_202 rfl ?_
  intro T143 h143 P143 W143 V143
  have Vw143 := Vw142.other W143 hne
  refine W.g_aload (pc1 := 205) P143.q at_203 rfl rfl rfl ?_
  refine W.g_iconst (pc1 := 206) (v := (5 : Int32)) P143.q at_205 (by decide) rfl ?_
  refine W.g_aload (pc1 := 208) P143.q at_206 rfl rfl rfl ?_
  refine W.g_iconst (pc1 := 209) (v := (5 : Int32)) P143.q at_208 (by decide) rfl ?_
  refine P143.ldJ (pc1 := 210) (v := (.long w5)) Vw143 (by decide) (by decide) rfl at_209 rfl ?_
  refine W.g_l2d (pc1 := 211) P143.q at_210 rfl ?_
  refine P143.stD (pc1 := 212) (i := 5) V143 (by decide) (by decide) (Nat.le_of_ble_eq_true rfl) rfl (Or.inr (by rw [g138]; exact P137.sz)) (Safe.arv P143.al V143 (by decide)) at_211 rfl ?_
  intro T144 h144 P144 W144 V144
  have Vw144 := Vw143.other W144 hne
  refine W.g_aload (pc1 := 214) P144.q at_212 rfl rfl rfl ?_
  refine W.g_bipush (pc1 := 216) (v := (6 : Int32)) P144.q at_214 (by decide) rfl ?_
  refine W.g_aload (pc1 := 218) P144.q at_216 rfl rfl rfl ?_
  refine W.g_bipush (pc1 := 220) (v := (6 : Int32)) P144.q at_218 (by decide) rfl ?_
  refine P144.ldJ (pc1 := 221) (v := (.long w6)) Vw144 (by decide) (by decide) rfl at_220 rfl ?_
  refine W.g_l2d (pc1 := 222) P144.q at_221 rfl ?_
  refine P144.stD (pc1 := 223) (i := 6) V144 (by decide) (by decide) (Nat.le_of_ble_eq_true rfl) rfl (Or.inr (by rw [g138]; exact P137.sz)) (Safe.arv P144.al V144 (by decide)) at_222 rfl ?_
  intro T145 h145 P145 W145 V145
  have Vw145 := Vw144.other W145 hne
  refine W.g_aload (pc1 := 225) P145.q at_223 rfl rfl rfl ?_
  refine W.g_bipush (pc1 := 227) (v := (7 : Int32)) P145.q at_225 (by decide) rfl ?_
  refine W.g_aload (pc1 := 229) P145.q at_227 rfl rfl rfl ?_
  refine W.g_bipush (pc1 := 231) (v := (7 : Int32)) P145.q at_229 (by decide) rfl ?_
  refine P145.ldJ (pc1 := 232) (v := (.long w7)) Vw145 (by decide) (by decide) rfl at_231 rfl ?_
  refine W.g_l2d (pc1 := 233) P145.q at_232 rfl ?_
  refine P145.stD (pc1 := 234) (i := 7) V145 (by decide) (by decide) (Nat.le_of_ble_eq_true rfl) rfl (Or.inr (by rw [g138]; exact P137.sz)) (Safe.arv P145.al V145 (by decide)) at_233 rfl ?_
  intro T146 h146 P146 W146 V146
  have Vw146 := Vw145.other W146 hne
  obtain ⟨lw, VW, hW⟩ : ∃ vs, Arv Z h146 x129 k129 .long 8 vs (.long 0) ∧ ∀ i, i < 8 → vs.getD i (.long 0) = .long ((own_g w0 w1 w2 w3 w4 w5 w6 w7) i) := ⟨_, Vw146, fun i hi => match i, hi with | 0, _ => rfl | 1, _ => rfl | 2, _ => rfl | 3, _ => rfl | 4, _ => rfl | 5, _ => rfl | 6, _ => rfl | 7, _ => rfl⟩
  obtain ⟨lz, VZ, hZ⟩ : ∃ vs, Arv Z h146 x138 k138 .double 8 vs (.double 0) ∧ ∀ i, i < 8 → vs.getD i (.double 0) = .double (FP.l2d ((own_g w0 w1 w2 w3 w4 w5 w6 w7) i)) := ⟨_, V146, fun i hi => match i, hi with | 0, _ => rfl | 1, _ => rfl | 2, _ => rfl | 3, _ => rfl | 4, _ => rfl | 5, _ => rfl | 6, _ => rfl | 7, _ => rfl⟩
  have hB : ∀ i, i < 8 → -32768 ≤ ((own_g w0 w1 w2 w3 w4 w5 w6 w7) i).toInt ∧ ((own_g w0 w1 w2 w3 w4 w5 w6 w7) i).toInt ≤ 32767 := fun i hi => match i, hi with | 0, _ => hs0 | 1, _ => hs1 | 2, _ => hs2 | 3, _ => hs3 | 4, _ => hs4 | 5, _ => hs5 | 6, _ => hs6 | 7, _ => hs7
  generalize (own_g w0 w1 w2 w3 w4 w5 w6 w7) = g at hW hZ hB
  refine W.g_iload (pc1 := 236) P146.q at_234 rfl rfl ?_
  have hr := own_mask3 a
  rw [hnv] at hr
  rcases hr with rfl | rfl | rfl | rfl
  · show W.Go p.tables e below _ (T146.setTop (mkF m 236 #[.val (.int a), .val (.int x0), .val (.int x1), .val (.int x2), .val (.long p0), .second, .val (.long q0), .second, .val (.int (0 : Int32)), .val (.int (Int32.ofNat d0)), .val (.int (Int32.ofNat d1)), .val (.int (Int32.ofNat d2)), .val (.int v0), .val (.int v1), .val (.int v2), .val (.ref x129), .val (.ref x138), .unset, .unset, .unset, .unset, .unset, .unset] [(.int (0 : Int32))]))
    refine P146.newP (pc1 := 238) (cap := 0) (wd hw (k := 7) rfl) (by decide) (by decide) (by decide) (by decide) (by decide) at_236 rfl ?_
    intro T147 h147 x147 k147 g147 P147 E147 V147
    refine W.g_astore (pc1 := 240) (ls2 := #[.val (.int a), .val (.int x0), .val (.int x1), .val (.int x2), .val (.long p0), .second, .val (.long q0), .second, .val (.int (0 : Int32)), .val (.int (Int32.ofNat d0)), .val (.int (Int32.ofNat d1)), .val (.int (Int32.ofNat d2)), .val (.int v0), .val (.int v1), .val (.int v2), .val (.ref x129), .val (.ref x138), .val (.ref x147), .unset, .unset, .unset, .unset, .unset]) P147.q at_238 rfl rfl rfl ?_
    refine W.g_iload (pc1 := 242) P147.q at_240 rfl rfl ?_
    refine P147.newP (pc1 := 244) (cap := 0) (wd hw (k := 8) rfl) (by decide) (by decide) (by decide) (by decide) (by decide) at_242 rfl ?_
    intro T148 h148 x148 k148 g148 P148 E148 V148
    have VW1 := (VW.ext E147).ext E148
    have VZ1 := (VZ.ext E147).ext E148
    have Vd1 := V147.ext E148
    have hdf : x147 ≠ x148 := Nat.ne_of_lt (by rw [g148]; exact V147.lt)
    have hwd : x129 ≠ x147 := Nat.ne_of_lt (by rw [g147]; exact VW.lt)
    have hzd : x138 ≠ x147 := Nat.ne_of_lt (by rw [g147]; exact VZ.lt)
    have hwf : x129 ≠ x148 := Nat.ne_of_lt (by rw [g148]; exact (VW.ext E147).lt)
    have hzf : x138 ≠ x148 := Nat.ne_of_lt (by rw [g148]; exact (VZ.ext E147).lt)
    refine W.g_astore (pc1 := 246) (ls2 := #[.val (.int a), .val (.int x0), .val (.int x1), .val (.int x2), .val (.long p0), .second, .val (.long q0), .second, .val (.int (0 : Int32)), .val (.int (Int32.ofNat d0)), .val (.int (Int32.ofNat d1)), .val (.int (Int32.ofNat d2)), .val (.int v0), .val (.int v1), .val (.int v2), .val (.ref x129), .val (.ref x138), .val (.ref x147), .val (.ref x148), .unset, .unset, .unset, .unset]) P148.q at_244 rfl rfl rfl ?_
    refine W.g_lconst (pc1 := 247) (v := (0 : Int64)) P148.q at_246 (by decide) rfl ?_
    refine W.g_lstore (pc1 := 249) (ls2 := #[.val (.int a), .val (.int x0), .val (.int x1), .val (.int x2), .val (.long p0), .second, .val (.long q0), .second, .val (.int (0 : Int32)), .val (.int (Int32.ofNat d0)), .val (.int (Int32.ofNat d1)), .val (.int (Int32.ofNat d2)), .val (.int v0), .val (.int v1), .val (.int v2), .val (.ref x129), .val (.ref x138), .val (.ref x147), .val (.ref x148), .val (.long (0 : Int64)), .second, .unset, .unset]) P148.q at_247 rfl rfl ?_
    refine W.g_iload (pc1 := 251) P148.q at_249 rfl rfl ?_
    refine W.g_iconst (pc1 := 252) (v := (1 : Int32)) P148.q at_251 (by decide) rfl ?_
    refine W.g_cmpY (pc1 := 282) P148.q at_252 (by decide) rfl (by decide) ?_
    refine W.g_iload (pc1 := 284) P148.q at_282 rfl rfl ?_
    refine W.g_iconst (pc1 := 285) (v := (2 : Int32)) P148.q at_284 (by decide) rfl ?_
    refine W.g_cmpY (pc1 := 315) P148.q at_285 (by decide) rfl (by decide) ?_
    refine W.g_iload (pc1 := 317) P148.q at_315 rfl rfl ?_
    refine W.g_iconst (pc1 := 318) (v := (3 : Int32)) P148.q at_317 (by decide) rfl ?_
    refine W.g_cmpY (pc1 := 348) P148.q at_318 (by decide) rfl (by decide) ?_
    have nm0 : Num 0 0 := by have q := Num.ofL (a := 0) (by decide); rw [show FP.Core.l2d 0 = 0 from FP.Core.l2d_zero] at q; exact q
    have z0 : (0 : Int64).toInt = 0 := rfl
    refine P148.newO (pc1 := 351) (wd hw (k := 9) rfl) (wd hw (k := 10) rfl) (wd hw (k := 11) rfl) (by decide) (by decide) at_348 rfl ?_
    intro T149 h149 x149 g149 P149 E149 A149 D149 U149
    refine W.g_dup (pc1 := 352) P149.q at_351 rfl rfl ?_
    refine W.g_aload (pc1 := 354) P149.q at_352 rfl rfl rfl ?_
    refine W.g_aload (pc1 := 356) P149.q at_354 rfl rfl rfl ?_
    have Ndimensions : Fld Z h149 x149 "com/example/intent_search/intentsearch/rank/CategoryVector" "dimensions" "[I" .null := D149 (Or.inr (wd hw (k := 19) rfl)) (ty := (.array .int)) (by decide)
    have Nvalues : Fld Z h149 x149 "com/example/intent_search/intentsearch/rank/CategoryVector" "values" "[F" .null := D149 (Or.inr (wd hw (k := 21) rfl)) (ty := (.array .float)) (by decide)
    refine P149.callN (pc1 := 359) rfl (wd hw (k := 12) rfl) (wd hw (k := 13) rfl) (wd hw (k := 14) rfl) (by decide) (W.MetN.pay (W := 1) (c_cv l Z a0 hw x149 x147 x148 h149 A149 _ Ndimensions _ Nvalues) P149 (wd hw (k := 14) rfl) (wd hw (k := 11) rfl) (by decide) (by decide)) (argsL := [(.ref x147), (.ref x148)]) (st0 := [(.ref x149)]) (lenOf pd_AIAF_R_V rfl) rfl rfl (Nat.le_of_eq rfl) (by rw [hml]; rfl) (by decide) (by decide) (fun _ _ _ q => ⟨q.2.1.up P149.sz (allS (Or.inr (by rw [g149]; exact P148.sz)) all0), CHr.keep q.2.2.1 (sfS (Safe.exa P149.al A149 (by decide) (by decide)) sf0) P149.chv⟩) at_356 rfl ?_
    intro v150 T150 h150 L150 q150 P150
    obtain ⟨rfl, f150, K150, A150, Fd150, Fv150⟩ := q150
    show W.Go p.tables e below _ (T150.setTop (mkF m 359 #[.val (.int a), .val (.int x0), .val (.int x1), .val (.int x2), .val (.long p0), .second, .val (.long q0), .second, .val (.int (0 : Int32)), .val (.int (Int32.ofNat d0)), .val (.int (Int32.ofNat d1)), .val (.int (Int32.ofNat d2)), .val (.int v0), .val (.int v1), .val (.int v2), .val (.ref x129), .val (.ref x138), .val (.ref x147), .val (.ref x148), .val (.long (0 : Int64)), .second, .unset, .unset] [(.ref x149)]))
    have Vdq := (Vd1.ext E149).keep K150 (ninS (Ne.symm (Exa.neArv A149 (Vd1.ext E149) (wd hw (k := 10) rfl))) nin0)
    have Vfq := (V148.ext E149).keep K150 (ninS (Ne.symm (Exa.neArv A149 (V148.ext E149) (wd hw (k := 10) rfl))) nin0)
    have VZq := (VZ1.ext E149).keep K150 (ninS (Ne.symm (Exa.neArv A149 (VZ1.ext E149) (wd hw (k := 10) rfl))) nin0)
    refine W.g_aload (pc1 := 361) P150.q at_359 rfl rfl rfl ?_
    refine P150.callV (pc1 := 364) A150 (wd hw (k := 22) rfl) (wd hw (k := 23) rfl) (wd hw (k := 25) rfl) (wd hw (k := 24) rfl) (notFace_of_selects (args := #[]) (mvT P150.hz (wd hw (k := 25) rfl))) (by decide) (W.MetN.pay (W := 0) (c_dot0 l Z a0 hw x149 x147 x148 x138 _ _ _ (fun i => FP.l2d (g i)) _  h150 Fd150 Fv150 Vdq Vfq VZq hZ) P150 (wd hw (k := 26) rfl) (wd hw (k := 11) rfl) (by decide) (by decide)) (argsL := [(.ref x138)]) (st0 := []) (lenOf pd_AD_R_D rfl) rfl rfl (Nat.le_of_eq rfl) (by rw [hml]; rfl) (by decide) (by decide) (W.Pure.ok P150.chv) at_361 rfl ?_
    intro v151 T151 h151 L151 q151 P151
    obtain ⟨rfl, rfl, rfl⟩ := q151
    show W.Go p.tables e below _ (T151.setTop (mkF m 364 #[.val (.int a), .val (.int x0), .val (.int x1), .val (.int x2), .val (.long p0), .second, .val (.long q0), .second, .val (.int (0 : Int32)), .val (.int (Int32.ofNat d0)), .val (.int (Int32.ofNat d1)), .val (.int (Int32.ofNat d2)), .val (.int v0), .val (.int v1), .val (.int v2), .val (.ref x129), .val (.ref x138), .val (.ref x147), .val (.ref x148), .val (.long (0 : Int64)), .second, .unset, .unset] [(.double (0 : UInt64))]))
    refine W.g_dstore (pc1 := 366) (ls2 := #[.val (.int a), .val (.int x0), .val (.int x1), .val (.int x2), .val (.long p0), .second, .val (.long q0), .second, .val (.int (0 : Int32)), .val (.int (Int32.ofNat d0)), .val (.int (Int32.ofNat d1)), .val (.int (Int32.ofNat d2)), .val (.int v0), .val (.int v1), .val (.int v2), .val (.ref x129), .val (.ref x138), .val (.ref x147), .val (.ref x148), .val (.long (0 : Int64)), .second, .val (.double (0 : UInt64)), .second]) P151.q at_364 rfl rfl ?_
    refine W.g_dload (pc1 := 368) P151.q at_366 rfl rfl ?_
    refine W.g_lload (pc1 := 370) P151.q at_368 rfl rfl ?_
    refine W.g_l2d (pc1 := 371) P151.q at_370 rfl ?_
    refine W.g_dcmp (pc1 := 372) P151.q at_371 rfl ?_
    have hcmp : cmpValue (FP.dcmp (0 : UInt64) (FP.l2d (0 : Int64))) .l = 0 := by
      have q := Num.ofL (a := (0 : Int64)) (by rw [z0]; omega)
      rw [z0] at q
      exact Num.cmp nm0 q .l
    rw [hcmp]
    refine W.g_ifN (pc2 := 375) P151.q at_372 rfl (by decide) ?_
    refine W.g_iconst (pc1 := 376) (v := (1 : Int32)) P151.q at_375 (by decide) rfl ?_
    refine W.g_goto (pc1 := 380) P151.q at_376 (by decide) rfl ?_
    exact P151.retVN hlk hret (Or.inl rfl) at_380 (by decide) (by decide) ⟨rfl, P151.fr⟩
  · show W.Go p.tables e below _ (T146.setTop (mkF m 236 #[.val (.int a), .val (.int x0), .val (.int x1), .val (.int x2), .val (.long p0), .second, .val (.long q0), .second, .val (.int (1 : Int32)), .val (.int (Int32.ofNat d0)), .val (.int (Int32.ofNat d1)), .val (.int (Int32.ofNat d2)), .val (.int v0), .val (.int v1), .val (.int v2), .val (.ref x129), .val (.ref x138), .unset, .unset, .unset, .unset, .unset, .unset] [(.int (1 : Int32))]))
    refine P146.newP (pc1 := 238) (cap := 1) (wd hw (k := 7) rfl) (by decide) (by decide) (by decide) (by decide) (by decide) at_236 rfl ?_
    intro T152 h152 x152 k152 g152 P152 E152 V152
    refine W.g_astore (pc1 := 240) (ls2 := #[.val (.int a), .val (.int x0), .val (.int x1), .val (.int x2), .val (.long p0), .second, .val (.long q0), .second, .val (.int (1 : Int32)), .val (.int (Int32.ofNat d0)), .val (.int (Int32.ofNat d1)), .val (.int (Int32.ofNat d2)), .val (.int v0), .val (.int v1), .val (.int v2), .val (.ref x129), .val (.ref x138), .val (.ref x152), .unset, .unset, .unset, .unset, .unset]) P152.q at_238 rfl rfl rfl ?_
    refine W.g_iload (pc1 := 242) P152.q at_240 rfl rfl ?_
    refine P152.newP (pc1 := 244) (cap := 1) (wd hw (k := 8) rfl) (by decide) (by decide) (by decide) (by decide) (by decide) at_242 rfl ?_
    intro T153 h153 x153 k153 g153 P153 E153 V153
    have VW1 := (VW.ext E152).ext E153
    have VZ1 := (VZ.ext E152).ext E153
    have Vd1 := V152.ext E153
    have hdf : x152 ≠ x153 := Nat.ne_of_lt (by rw [g153]; exact V152.lt)
    have hwd : x129 ≠ x152 := Nat.ne_of_lt (by rw [g152]; exact VW.lt)
    have hzd : x138 ≠ x152 := Nat.ne_of_lt (by rw [g152]; exact VZ.lt)
    have hwf : x129 ≠ x153 := Nat.ne_of_lt (by rw [g153]; exact (VW.ext E152).lt)
    have hzf : x138 ≠ x153 := Nat.ne_of_lt (by rw [g153]; exact (VZ.ext E152).lt)
    refine W.g_astore (pc1 := 246) (ls2 := #[.val (.int a), .val (.int x0), .val (.int x1), .val (.int x2), .val (.long p0), .second, .val (.long q0), .second, .val (.int (1 : Int32)), .val (.int (Int32.ofNat d0)), .val (.int (Int32.ofNat d1)), .val (.int (Int32.ofNat d2)), .val (.int v0), .val (.int v1), .val (.int v2), .val (.ref x129), .val (.ref x138), .val (.ref x152), .val (.ref x153), .unset, .unset, .unset, .unset]) P153.q at_244 rfl rfl rfl ?_
    refine W.g_lconst (pc1 := 247) (v := (0 : Int64)) P153.q at_246 (by decide) rfl ?_
    refine W.g_lstore (pc1 := 249) (ls2 := #[.val (.int a), .val (.int x0), .val (.int x1), .val (.int x2), .val (.long p0), .second, .val (.long q0), .second, .val (.int (1 : Int32)), .val (.int (Int32.ofNat d0)), .val (.int (Int32.ofNat d1)), .val (.int (Int32.ofNat d2)), .val (.int v0), .val (.int v1), .val (.int v2), .val (.ref x129), .val (.ref x138), .val (.ref x152), .val (.ref x153), .val (.long (0 : Int64)), .second, .unset, .unset]) P153.q at_247 rfl rfl ?_
    refine W.g_iload (pc1 := 251) P153.q at_249 rfl rfl ?_
    refine W.g_iconst (pc1 := 252) (v := (1 : Int32)) P153.q at_251 (by decide) rfl ?_
    refine W.g_cmpN (pc2 := 255) P153.q at_252 rfl (by decide) ?_
    refine W.g_aload (pc1 := 257) P153.q at_255 rfl rfl rfl ?_
    refine W.g_iconst (pc1 := 258) (v := (0 : Int32)) P153.q at_257 (by decide) rfl ?_
    refine W.g_iload (pc1 := 260) P153.q at_258 rfl rfl ?_
    refine P153.stI (pc1 := 261) (i := 0) Vd1 (by decide) (by decide) (Nat.le_of_ble_eq_true rfl) rfl (Or.inr (by rw [g152]; exact P146.sz)) (Safe.arv P153.al Vd1 (by decide)) at_260 rfl ?_
    intro T154 h154 P154 W154 V154
    have Vf154 := V153.other W154 (Ne.symm hdf)
    have VW154 := VW1.other W154 hwd
    have VZ154 := VZ1.other W154 hzd
    refine W.g_aload (pc1 := 263) P154.q at_261 rfl rfl rfl ?_
    refine W.g_iconst (pc1 := 264) (v := (0 : Int32)) P154.q at_263 (by decide) rfl ?_
    refine W.g_iload (pc1 := 266) P154.q at_264 rfl rfl ?_
    refine W.g_i2f (pc1 := 267) P154.q at_266 rfl ?_
    refine P154.stF (pc1 := 268) (i := 0) Vf154 (by decide) (by decide) (Nat.le_of_ble_eq_true rfl) rfl (Or.inr (by rw [g153]; exact P152.sz)) (Safe.arv P154.al Vf154 (by decide)) at_267 rfl ?_
    intro T155 h155 P155 W155 V155
    have Vd155 := V154.other W155 hdf
    have VW155 := VW154.other W155 hwf
    have VZ155 := VZ154.other W155 hzf
    refine W.g_lload (pc1 := 270) P155.q at_268 rfl rfl ?_
    refine W.g_iload (pc1 := 272) P155.q at_270 rfl rfl ?_
    refine W.g_i2l (pc1 := 273) P155.q at_272 rfl ?_
    refine W.g_aload (pc1 := 275) P155.q at_273 rfl rfl rfl ?_
    refine W.g_iload (pc1 := 277) P155.q at_275 rfl rfl ?_
    refine P155.ldJ (pc1 := 278) (v := (.long (g d0))) VW155 (own_nn32 (by omega)) (by rw [own_n32 (by omega)]; show d0 < 8; omega) (by rw [own_n32 (by omega)]; exact hW d0 (by omega)) at_277 rfl ?_
    refine W.g_lmul (pc1 := 279) P155.q at_278 rfl ?_
    refine W.g_ladd (pc1 := 280) P155.q at_279 rfl ?_
    refine W.g_lstore (pc1 := 282) (ls2 := #[.val (.int a), .val (.int x0), .val (.int x1), .val (.int x2), .val (.long p0), .second, .val (.long q0), .second, .val (.int (1 : Int32)), .val (.int (Int32.ofNat d0)), .val (.int (Int32.ofNat d1)), .val (.int (Int32.ofNat d2)), .val (.int v0), .val (.int v1), .val (.int v2), .val (.ref x129), .val (.ref x138), .val (.ref x152), .val (.ref x153), .val (.long ((0 : Int64) + (v0.toInt64 * (g d0)))), .second, .unset, .unset]) P155.q at_280 rfl rfl ?_
    refine W.g_iload (pc1 := 284) P155.q at_282 rfl rfl ?_
    refine W.g_iconst (pc1 := 285) (v := (2 : Int32)) P155.q at_284 (by decide) rfl ?_
    refine W.g_cmpY (pc1 := 315) P155.q at_285 (by decide) rfl (by decide) ?_
    refine W.g_iload (pc1 := 317) P155.q at_315 rfl rfl ?_
    refine W.g_iconst (pc1 := 318) (v := (3 : Int32)) P155.q at_317 (by decide) rfl ?_
    refine W.g_cmpY (pc1 := 348) P155.q at_318 (by decide) rfl (by decide) ?_
    have hg0 := hB d0 (by omega)
    have m0 := own_mulb hv0 hg0
    have n0 := (Num.ofF hv0).mul (Num.ofL (own_b hg0)) (by omega)
    have nm0 : Num 0 0 := by have q := Num.ofL (a := 0) (by decide); rw [show FP.Core.l2d 0 = 0 from FP.Core.l2d_zero] at q; exact q
    have r0 := nm0.add n0 (by omega)
    have z0 : (0 : Int64).toInt = 0 := rfl
    have s0 := own_addL z0 (own_mulL hv0 hg0) (by omega) (by omega)
    refine P155.newO (pc1 := 351) (wd hw (k := 9) rfl) (wd hw (k := 10) rfl) (wd hw (k := 11) rfl) (by decide) (by decide) at_348 rfl ?_
    intro T156 h156 x156 g156 P156 E156 A156 D156 U156
    refine W.g_dup (pc1 := 352) P156.q at_351 rfl rfl ?_
    refine W.g_aload (pc1 := 354) P156.q at_352 rfl rfl rfl ?_
    refine W.g_aload (pc1 := 356) P156.q at_354 rfl rfl rfl ?_
    have Ndimensions : Fld Z h156 x156 "com/example/intent_search/intentsearch/rank/CategoryVector" "dimensions" "[I" .null := D156 (Or.inr (wd hw (k := 19) rfl)) (ty := (.array .int)) (by decide)
    have Nvalues : Fld Z h156 x156 "com/example/intent_search/intentsearch/rank/CategoryVector" "values" "[F" .null := D156 (Or.inr (wd hw (k := 21) rfl)) (ty := (.array .float)) (by decide)
    refine P156.callN (pc1 := 359) rfl (wd hw (k := 12) rfl) (wd hw (k := 13) rfl) (wd hw (k := 14) rfl) (by decide) (W.MetN.pay (W := 1) (c_cv l Z a0 hw x156 x152 x153 h156 A156 _ Ndimensions _ Nvalues) P156 (wd hw (k := 14) rfl) (wd hw (k := 11) rfl) (by decide) (by decide)) (argsL := [(.ref x152), (.ref x153)]) (st0 := [(.ref x156)]) (lenOf pd_AIAF_R_V rfl) rfl rfl (Nat.le_of_eq rfl) (by rw [hml]; rfl) (by decide) (by decide) (fun _ _ _ q => ⟨q.2.1.up P156.sz (allS (Or.inr (by rw [g156]; exact P155.sz)) all0), CHr.keep q.2.2.1 (sfS (Safe.exa P156.al A156 (by decide) (by decide)) sf0) P156.chv⟩) at_356 rfl ?_
    intro v157 T157 h157 L157 q157 P157
    obtain ⟨rfl, f157, K157, A157, Fd157, Fv157⟩ := q157
    show W.Go p.tables e below _ (T157.setTop (mkF m 359 #[.val (.int a), .val (.int x0), .val (.int x1), .val (.int x2), .val (.long p0), .second, .val (.long q0), .second, .val (.int (1 : Int32)), .val (.int (Int32.ofNat d0)), .val (.int (Int32.ofNat d1)), .val (.int (Int32.ofNat d2)), .val (.int v0), .val (.int v1), .val (.int v2), .val (.ref x129), .val (.ref x138), .val (.ref x152), .val (.ref x153), .val (.long ((0 : Int64) + (v0.toInt64 * (g d0)))), .second, .unset, .unset] [(.ref x156)]))
    have Vdq := (Vd155.ext E156).keep K157 (ninS (Ne.symm (Exa.neArv A156 (Vd155.ext E156) (wd hw (k := 10) rfl))) nin0)
    have Vfq := (V155.ext E156).keep K157 (ninS (Ne.symm (Exa.neArv A156 (V155.ext E156) (wd hw (k := 10) rfl))) nin0)
    have VZq := (VZ155.ext E156).keep K157 (ninS (Ne.symm (Exa.neArv A156 (VZ155.ext E156) (wd hw (k := 10) rfl))) nin0)
    refine W.g_aload (pc1 := 361) P157.q at_359 rfl rfl rfl ?_
    refine P157.callV (pc1 := 364) A157 (wd hw (k := 22) rfl) (wd hw (k := 23) rfl) (wd hw (k := 25) rfl) (wd hw (k := 24) rfl) (notFace_of_selects (args := #[]) (mvT P157.hz (wd hw (k := 25) rfl))) (by decide) (W.MetN.pay (W := 0) (c_dot1 l Z a0 hw x156 x152 x153 x138 _ _ _ (fun i => FP.l2d (g i)) _ (FP.i2f v0) d0 (by omega) (Num.ofF hv0).no n0.no r0.no h157 Fd157 Fv157 Vdq Vfq VZq hZ) P157 (wd hw (k := 26) rfl) (wd hw (k := 11) rfl) (by decide) (by decide)) (argsL := [(.ref x138)]) (st0 := []) (lenOf pd_AD_R_D rfl) rfl rfl (Nat.le_of_eq rfl) (by rw [hml]; rfl) (by decide) (by decide) (W.Pure.ok P157.chv) at_361 rfl ?_
    intro v158 T158 h158 L158 q158 P158
    obtain ⟨rfl, rfl, rfl⟩ := q158
    show W.Go p.tables e below _ (T158.setTop (mkF m 364 #[.val (.int a), .val (.int x0), .val (.int x1), .val (.int x2), .val (.long p0), .second, .val (.long q0), .second, .val (.int (1 : Int32)), .val (.int (Int32.ofNat d0)), .val (.int (Int32.ofNat d1)), .val (.int (Int32.ofNat d2)), .val (.int v0), .val (.int v1), .val (.int v2), .val (.ref x129), .val (.ref x138), .val (.ref x152), .val (.ref x153), .val (.long ((0 : Int64) + (v0.toInt64 * (g d0)))), .second, .unset, .unset] [(.double (FP.dadd (0 : UInt64) (FP.dmul (FP.f2d (FP.i2f v0)) (FP.l2d (g d0)))))]))
    refine W.g_dstore (pc1 := 366) (ls2 := #[.val (.int a), .val (.int x0), .val (.int x1), .val (.int x2), .val (.long p0), .second, .val (.long q0), .second, .val (.int (1 : Int32)), .val (.int (Int32.ofNat d0)), .val (.int (Int32.ofNat d1)), .val (.int (Int32.ofNat d2)), .val (.int v0), .val (.int v1), .val (.int v2), .val (.ref x129), .val (.ref x138), .val (.ref x152), .val (.ref x153), .val (.long ((0 : Int64) + (v0.toInt64 * (g d0)))), .second, .val (.double (FP.dadd (0 : UInt64) (FP.dmul (FP.f2d (FP.i2f v0)) (FP.l2d (g d0))))), .second]) P158.q at_364 rfl rfl ?_
    refine W.g_dload (pc1 := 368) P158.q at_366 rfl rfl ?_
    refine W.g_lload (pc1 := 370) P158.q at_368 rfl rfl ?_
    refine W.g_l2d (pc1 := 371) P158.q at_370 rfl ?_
    refine W.g_dcmp (pc1 := 372) P158.q at_371 rfl ?_
    have hcmp : cmpValue (FP.dcmp (FP.dadd (0 : UInt64) (FP.dmul (FP.f2d (FP.i2f v0)) (FP.l2d (g d0)))) (FP.l2d ((0 : Int64) + (v0.toInt64 * (g d0))))) .l = 0 := by
      have q := Num.ofL (a := ((0 : Int64) + (v0.toInt64 * (g d0)))) (by rw [s0]; omega)
      rw [s0] at q
      exact Num.cmp r0 q .l
    rw [hcmp]
    refine W.g_ifN (pc2 := 375) P158.q at_372 rfl (by decide) ?_
    refine W.g_iconst (pc1 := 376) (v := (1 : Int32)) P158.q at_375 (by decide) rfl ?_
    refine W.g_goto (pc1 := 380) P158.q at_376 (by decide) rfl ?_
    exact P158.retVN hlk hret (Or.inl rfl) at_380 (by decide) (by decide) ⟨rfl, P158.fr⟩
  · show W.Go p.tables e below _ (T146.setTop (mkF m 236 #[.val (.int a), .val (.int x0), .val (.int x1), .val (.int x2), .val (.long p0), .second, .val (.long q0), .second, .val (.int (2 : Int32)), .val (.int (Int32.ofNat d0)), .val (.int (Int32.ofNat d1)), .val (.int (Int32.ofNat d2)), .val (.int v0), .val (.int v1), .val (.int v2), .val (.ref x129), .val (.ref x138), .unset, .unset, .unset, .unset, .unset, .unset] [(.int (2 : Int32))]))
    refine P146.newP (pc1 := 238) (cap := 2) (wd hw (k := 7) rfl) (by decide) (by decide) (by decide) (by decide) (by decide) at_236 rfl ?_
    intro T159 h159 x159 k159 g159 P159 E159 V159
    refine W.g_astore (pc1 := 240) (ls2 := #[.val (.int a), .val (.int x0), .val (.int x1), .val (.int x2), .val (.long p0), .second, .val (.long q0), .second, .val (.int (2 : Int32)), .val (.int (Int32.ofNat d0)), .val (.int (Int32.ofNat d1)), .val (.int (Int32.ofNat d2)), .val (.int v0), .val (.int v1), .val (.int v2), .val (.ref x129), .val (.ref x138), .val (.ref x159), .unset, .unset, .unset, .unset, .unset]) P159.q at_238 rfl rfl rfl ?_
    refine W.g_iload (pc1 := 242) P159.q at_240 rfl rfl ?_
    refine P159.newP (pc1 := 244) (cap := 2) (wd hw (k := 8) rfl) (by decide) (by decide) (by decide) (by decide) (by decide) at_242 rfl ?_
    intro T160 h160 x160 k160 g160 P160 E160 V160
    have VW1 := (VW.ext E159).ext E160
    have VZ1 := (VZ.ext E159).ext E160
    have Vd1 := V159.ext E160
    have hdf : x159 ≠ x160 := Nat.ne_of_lt (by rw [g160]; exact V159.lt)
    have hwd : x129 ≠ x159 := Nat.ne_of_lt (by rw [g159]; exact VW.lt)
    have hzd : x138 ≠ x159 := Nat.ne_of_lt (by rw [g159]; exact VZ.lt)
    have hwf : x129 ≠ x160 := Nat.ne_of_lt (by rw [g160]; exact (VW.ext E159).lt)
    have hzf : x138 ≠ x160 := Nat.ne_of_lt (by rw [g160]; exact (VZ.ext E159).lt)
    refine W.g_astore (pc1 := 246) (ls2 := #[.val (.int a), .val (.int x0), .val (.int x1), .val (.int x2), .val (.long p0), .second, .val (.long q0), .second, .val (.int (2 : Int32)), .val (.int (Int32.ofNat d0)), .val (.int (Int32.ofNat d1)), .val (.int (Int32.ofNat d2)), .val (.int v0), .val (.int v1), .val (.int v2), .val (.ref x129), .val (.ref x138), .val (.ref x159), .val (.ref x160), .unset, .unset, .unset, .unset]) P160.q at_244 rfl rfl rfl ?_
    refine W.g_lconst (pc1 := 247) (v := (0 : Int64)) P160.q at_246 (by decide) rfl ?_
    refine W.g_lstore (pc1 := 249) (ls2 := #[.val (.int a), .val (.int x0), .val (.int x1), .val (.int x2), .val (.long p0), .second, .val (.long q0), .second, .val (.int (2 : Int32)), .val (.int (Int32.ofNat d0)), .val (.int (Int32.ofNat d1)), .val (.int (Int32.ofNat d2)), .val (.int v0), .val (.int v1), .val (.int v2), .val (.ref x129), .val (.ref x138), .val (.ref x159), .val (.ref x160), .val (.long (0 : Int64)), .second, .unset, .unset]) P160.q at_247 rfl rfl ?_
    refine W.g_iload (pc1 := 251) P160.q at_249 rfl rfl ?_
    refine W.g_iconst (pc1 := 252) (v := (1 : Int32)) P160.q at_251 (by decide) rfl ?_
    refine W.g_cmpN (pc2 := 255) P160.q at_252 rfl (by decide) ?_
    refine W.g_aload (pc1 := 257) P160.q at_255 rfl rfl rfl ?_
    refine W.g_iconst (pc1 := 258) (v := (0 : Int32)) P160.q at_257 (by decide) rfl ?_
    refine W.g_iload (pc1 := 260) P160.q at_258 rfl rfl ?_
    refine P160.stI (pc1 := 261) (i := 0) Vd1 (by decide) (by decide) (Nat.le_of_ble_eq_true rfl) rfl (Or.inr (by rw [g159]; exact P146.sz)) (Safe.arv P160.al Vd1 (by decide)) at_260 rfl ?_
    intro T161 h161 P161 W161 V161
    have Vf161 := V160.other W161 (Ne.symm hdf)
    have VW161 := VW1.other W161 hwd
    have VZ161 := VZ1.other W161 hzd
    refine W.g_aload (pc1 := 263) P161.q at_261 rfl rfl rfl ?_
    refine W.g_iconst (pc1 := 264) (v := (0 : Int32)) P161.q at_263 (by decide) rfl ?_
    refine W.g_iload (pc1 := 266) P161.q at_264 rfl rfl ?_
    refine W.g_i2f (pc1 := 267) P161.q at_266 rfl ?_
    refine P161.stF (pc1 := 268) (i := 0) Vf161 (by decide) (by decide) (Nat.le_of_ble_eq_true rfl) rfl (Or.inr (by rw [g160]; exact P159.sz)) (Safe.arv P161.al Vf161 (by decide)) at_267 rfl ?_
    intro T162 h162 P162 W162 V162
    have Vd162 := V161.other W162 hdf
    have VW162 := VW161.other W162 hwf
    have VZ162 := VZ161.other W162 hzf
    refine W.g_lload (pc1 := 270) P162.q at_268 rfl rfl ?_
    refine W.g_iload (pc1 := 272) P162.q at_270 rfl rfl ?_
    refine W.g_i2l (pc1 := 273) P162.q at_272 rfl ?_
    refine W.g_aload (pc1 := 275) P162.q at_273 rfl rfl rfl ?_
    refine W.g_iload (pc1 := 277) P162.q at_275 rfl rfl ?_
    refine P162.ldJ (pc1 := 278) (v := (.long (g d0))) VW162 (own_nn32 (by omega)) (by rw [own_n32 (by omega)]; show d0 < 8; omega) (by rw [own_n32 (by omega)]; exact hW d0 (by omega)) at_277 rfl ?_
    refine W.g_lmul (pc1 := 279) P162.q at_278 rfl ?_
    refine W.g_ladd (pc1 := 280) P162.q at_279 rfl ?_
    refine W.g_lstore (pc1 := 282) (ls2 := #[.val (.int a), .val (.int x0), .val (.int x1), .val (.int x2), .val (.long p0), .second, .val (.long q0), .second, .val (.int (2 : Int32)), .val (.int (Int32.ofNat d0)), .val (.int (Int32.ofNat d1)), .val (.int (Int32.ofNat d2)), .val (.int v0), .val (.int v1), .val (.int v2), .val (.ref x129), .val (.ref x138), .val (.ref x159), .val (.ref x160), .val (.long ((0 : Int64) + (v0.toInt64 * (g d0)))), .second, .unset, .unset]) P162.q at_280 rfl rfl ?_
    refine W.g_iload (pc1 := 284) P162.q at_282 rfl rfl ?_
    refine W.g_iconst (pc1 := 285) (v := (2 : Int32)) P162.q at_284 (by decide) rfl ?_
    refine W.g_cmpN (pc2 := 288) P162.q at_285 rfl (by decide) ?_
    refine W.g_aload (pc1 := 290) P162.q at_288 rfl rfl rfl ?_
    refine W.g_iconst (pc1 := 291) (v := (1 : Int32)) P162.q at_290 (by decide) rfl ?_
    refine W.g_iload (pc1 := 293) P162.q at_291 rfl rfl ?_
    refine P162.stI (pc1 := 294) (i := 1) Vd162 (by decide) (by decide) (Nat.le_of_ble_eq_true rfl) rfl (Or.inr (by rw [g159]; exact P146.sz)) (Safe.arv P162.al Vd162 (by decide)) at_293 rfl ?_
    intro T163 h163 P163 W163 V163
    have Vf163 := V162.other W163 (Ne.symm hdf)
    have VW163 := VW162.other W163 hwd
    have VZ163 := VZ162.other W163 hzd
    refine W.g_aload (pc1 := 296) P163.q at_294 rfl rfl rfl ?_
    refine W.g_iconst (pc1 := 297) (v := (1 : Int32)) P163.q at_296 (by decide) rfl ?_
    refine W.g_iload (pc1 := 299) P163.q at_297 rfl rfl ?_
    refine W.g_i2f (pc1 := 300) P163.q at_299 rfl ?_
    refine P163.stF (pc1 := 301) (i := 1) Vf163 (by decide) (by decide) (Nat.le_of_ble_eq_true rfl) rfl (Or.inr (by rw [g160]; exact P159.sz)) (Safe.arv P163.al Vf163 (by decide)) at_300 rfl ?_
    intro T164 h164 P164 W164 V164
    have Vd164 := V163.other W164 hdf
    have VW164 := VW163.other W164 hwf
    have VZ164 := VZ163.other W164 hzf
    refine W.g_lload (pc1 := 303) P164.q at_301 rfl rfl ?_
    refine W.g_iload (pc1 := 305) P164.q at_303 rfl rfl ?_
    refine W.g_i2l (pc1 := 306) P164.q at_305 rfl ?_
    refine W.g_aload (pc1 := 308) P164.q at_306 rfl rfl rfl ?_
    refine W.g_iload (pc1 := 310) P164.q at_308 rfl rfl ?_
    refine P164.ldJ (pc1 := 311) (v := (.long (g d1))) VW164 (own_nn32 (by omega)) (by rw [own_n32 (by omega)]; show d1 < 8; omega) (by rw [own_n32 (by omega)]; exact hW d1 (by omega)) at_310 rfl ?_
    refine W.g_lmul (pc1 := 312) P164.q at_311 rfl ?_
    refine W.g_ladd (pc1 := 313) P164.q at_312 rfl ?_
    refine W.g_lstore (pc1 := 315) (ls2 := #[.val (.int a), .val (.int x0), .val (.int x1), .val (.int x2), .val (.long p0), .second, .val (.long q0), .second, .val (.int (2 : Int32)), .val (.int (Int32.ofNat d0)), .val (.int (Int32.ofNat d1)), .val (.int (Int32.ofNat d2)), .val (.int v0), .val (.int v1), .val (.int v2), .val (.ref x129), .val (.ref x138), .val (.ref x159), .val (.ref x160), .val (.long (((0 : Int64) + (v0.toInt64 * (g d0))) + (v1.toInt64 * (g d1)))), .second, .unset, .unset]) P164.q at_313 rfl rfl ?_
    refine W.g_iload (pc1 := 317) P164.q at_315 rfl rfl ?_
    refine W.g_iconst (pc1 := 318) (v := (3 : Int32)) P164.q at_317 (by decide) rfl ?_
    refine W.g_cmpY (pc1 := 348) P164.q at_318 (by decide) rfl (by decide) ?_
    have hg0 := hB d0 (by omega)
    have m0 := own_mulb hv0 hg0
    have n0 := (Num.ofF hv0).mul (Num.ofL (own_b hg0)) (by omega)
    have hg1 := hB d1 (by omega)
    have m1 := own_mulb hv1 hg1
    have n1 := (Num.ofF hv1).mul (Num.ofL (own_b hg1)) (by omega)
    have nm0 : Num 0 0 := by have q := Num.ofL (a := 0) (by decide); rw [show FP.Core.l2d 0 = 0 from FP.Core.l2d_zero] at q; exact q
    have r0 := nm0.add n0 (by omega)
    have r1 := r0.add n1 (by omega)
    have z0 : (0 : Int64).toInt = 0 := rfl
    have s0 := own_addL z0 (own_mulL hv0 hg0) (by omega) (by omega)
    have s1 := own_addL s0 (own_mulL hv1 hg1) (by omega) (by omega)
    refine P164.newO (pc1 := 351) (wd hw (k := 9) rfl) (wd hw (k := 10) rfl) (wd hw (k := 11) rfl) (by decide) (by decide) at_348 rfl ?_
    intro T165 h165 x165 g165 P165 E165 A165 D165 U165
    refine W.g_dup (pc1 := 352) P165.q at_351 rfl rfl ?_
    refine W.g_aload (pc1 := 354) P165.q at_352 rfl rfl rfl ?_
    refine W.g_aload (pc1 := 356) P165.q at_354 rfl rfl rfl ?_
    have Ndimensions : Fld Z h165 x165 "com/example/intent_search/intentsearch/rank/CategoryVector" "dimensions" "[I" .null := D165 (Or.inr (wd hw (k := 19) rfl)) (ty := (.array .int)) (by decide)
    have Nvalues : Fld Z h165 x165 "com/example/intent_search/intentsearch/rank/CategoryVector" "values" "[F" .null := D165 (Or.inr (wd hw (k := 21) rfl)) (ty := (.array .float)) (by decide)
    refine P165.callN (pc1 := 359) rfl (wd hw (k := 12) rfl) (wd hw (k := 13) rfl) (wd hw (k := 14) rfl) (by decide) (W.MetN.pay (W := 1) (c_cv l Z a0 hw x165 x159 x160 h165 A165 _ Ndimensions _ Nvalues) P165 (wd hw (k := 14) rfl) (wd hw (k := 11) rfl) (by decide) (by decide)) (argsL := [(.ref x159), (.ref x160)]) (st0 := [(.ref x165)]) (lenOf pd_AIAF_R_V rfl) rfl rfl (Nat.le_of_eq rfl) (by rw [hml]; rfl) (by decide) (by decide) (fun _ _ _ q => ⟨q.2.1.up P165.sz (allS (Or.inr (by rw [g165]; exact P164.sz)) all0), CHr.keep q.2.2.1 (sfS (Safe.exa P165.al A165 (by decide) (by decide)) sf0) P165.chv⟩) at_356 rfl ?_
    intro v166 T166 h166 L166 q166 P166
    obtain ⟨rfl, f166, K166, A166, Fd166, Fv166⟩ := q166
    show W.Go p.tables e below _ (T166.setTop (mkF m 359 #[.val (.int a), .val (.int x0), .val (.int x1), .val (.int x2), .val (.long p0), .second, .val (.long q0), .second, .val (.int (2 : Int32)), .val (.int (Int32.ofNat d0)), .val (.int (Int32.ofNat d1)), .val (.int (Int32.ofNat d2)), .val (.int v0), .val (.int v1), .val (.int v2), .val (.ref x129), .val (.ref x138), .val (.ref x159), .val (.ref x160), .val (.long (((0 : Int64) + (v0.toInt64 * (g d0))) + (v1.toInt64 * (g d1)))), .second, .unset, .unset] [(.ref x165)]))
    have Vdq := (Vd164.ext E165).keep K166 (ninS (Ne.symm (Exa.neArv A165 (Vd164.ext E165) (wd hw (k := 10) rfl))) nin0)
    have Vfq := (V164.ext E165).keep K166 (ninS (Ne.symm (Exa.neArv A165 (V164.ext E165) (wd hw (k := 10) rfl))) nin0)
    have VZq := (VZ164.ext E165).keep K166 (ninS (Ne.symm (Exa.neArv A165 (VZ164.ext E165) (wd hw (k := 10) rfl))) nin0)
    refine W.g_aload (pc1 := 361) P166.q at_359 rfl rfl rfl ?_
    refine P166.callV (pc1 := 364) A166 (wd hw (k := 22) rfl) (wd hw (k := 23) rfl) (wd hw (k := 25) rfl) (wd hw (k := 24) rfl) (notFace_of_selects (args := #[]) (mvT P166.hz (wd hw (k := 25) rfl))) (by decide) (W.MetN.pay (W := 0) (c_dot2 l Z a0 hw x165 x159 x160 x138 _ _ _ (fun i => FP.l2d (g i)) _ (FP.i2f v0) d0 (by omega) (Num.ofF hv0).no n0.no r0.no (FP.i2f v1) d1 (by omega) (Num.ofF hv1).no n1.no r1.no h166 Fd166 Fv166 Vdq Vfq VZq hZ) P166 (wd hw (k := 26) rfl) (wd hw (k := 11) rfl) (by decide) (by decide)) (argsL := [(.ref x138)]) (st0 := []) (lenOf pd_AD_R_D rfl) rfl rfl (Nat.le_of_eq rfl) (by rw [hml]; rfl) (by decide) (by decide) (W.Pure.ok P166.chv) at_361 rfl ?_
    intro v167 T167 h167 L167 q167 P167
    obtain ⟨rfl, rfl, rfl⟩ := q167
    show W.Go p.tables e below _ (T167.setTop (mkF m 364 #[.val (.int a), .val (.int x0), .val (.int x1), .val (.int x2), .val (.long p0), .second, .val (.long q0), .second, .val (.int (2 : Int32)), .val (.int (Int32.ofNat d0)), .val (.int (Int32.ofNat d1)), .val (.int (Int32.ofNat d2)), .val (.int v0), .val (.int v1), .val (.int v2), .val (.ref x129), .val (.ref x138), .val (.ref x159), .val (.ref x160), .val (.long (((0 : Int64) + (v0.toInt64 * (g d0))) + (v1.toInt64 * (g d1)))), .second, .unset, .unset] [(.double (FP.dadd (FP.dadd (0 : UInt64) (FP.dmul (FP.f2d (FP.i2f v0)) (FP.l2d (g d0)))) (FP.dmul (FP.f2d (FP.i2f v1)) (FP.l2d (g d1)))))]))
    refine W.g_dstore (pc1 := 366) (ls2 := #[.val (.int a), .val (.int x0), .val (.int x1), .val (.int x2), .val (.long p0), .second, .val (.long q0), .second, .val (.int (2 : Int32)), .val (.int (Int32.ofNat d0)), .val (.int (Int32.ofNat d1)), .val (.int (Int32.ofNat d2)), .val (.int v0), .val (.int v1), .val (.int v2), .val (.ref x129), .val (.ref x138), .val (.ref x159), .val (.ref x160), .val (.long (((0 : Int64) + (v0.toInt64 * (g d0))) + (v1.toInt64 * (g d1)))), .second, .val (.double (FP.dadd (FP.dadd (0 : UInt64) (FP.dmul (FP.f2d (FP.i2f v0)) (FP.l2d (g d0)))) (FP.dmul (FP.f2d (FP.i2f v1)) (FP.l2d (g d1))))), .second]) P167.q at_364 rfl rfl ?_
    refine W.g_dload (pc1 := 368) P167.q at_366 rfl rfl ?_
    refine W.g_lload (pc1 := 370) P167.q at_368 rfl rfl ?_
    refine W.g_l2d (pc1 := 371) P167.q at_370 rfl ?_
    refine W.g_dcmp (pc1 := 372) P167.q at_371 rfl ?_
    have hcmp : cmpValue (FP.dcmp (FP.dadd (FP.dadd (0 : UInt64) (FP.dmul (FP.f2d (FP.i2f v0)) (FP.l2d (g d0)))) (FP.dmul (FP.f2d (FP.i2f v1)) (FP.l2d (g d1)))) (FP.l2d (((0 : Int64) + (v0.toInt64 * (g d0))) + (v1.toInt64 * (g d1))))) .l = 0 := by
      have q := Num.ofL (a := (((0 : Int64) + (v0.toInt64 * (g d0))) + (v1.toInt64 * (g d1)))) (by rw [s1]; omega)
      rw [s1] at q
      exact Num.cmp r1 q .l
    rw [hcmp]
    refine W.g_ifN (pc2 := 375) P167.q at_372 rfl (by decide) ?_
    refine W.g_iconst (pc1 := 376) (v := (1 : Int32)) P167.q at_375 (by decide) rfl ?_
    refine W.g_goto (pc1 := 380) P167.q at_376 (by decide) rfl ?_
    exact P167.retVN hlk hret (Or.inl rfl) at_380 (by decide) (by decide) ⟨rfl, P167.fr⟩
  · show W.Go p.tables e below _ (T146.setTop (mkF m 236 #[.val (.int a), .val (.int x0), .val (.int x1), .val (.int x2), .val (.long p0), .second, .val (.long q0), .second, .val (.int (3 : Int32)), .val (.int (Int32.ofNat d0)), .val (.int (Int32.ofNat d1)), .val (.int (Int32.ofNat d2)), .val (.int v0), .val (.int v1), .val (.int v2), .val (.ref x129), .val (.ref x138), .unset, .unset, .unset, .unset, .unset, .unset] [(.int (3 : Int32))]))
    refine P146.newP (pc1 := 238) (cap := 3) (wd hw (k := 7) rfl) (by decide) (by decide) (by decide) (by decide) (by decide) at_236 rfl ?_
    intro T168 h168 x168 k168 g168 P168 E168 V168
    refine W.g_astore (pc1 := 240) (ls2 := #[.val (.int a), .val (.int x0), .val (.int x1), .val (.int x2), .val (.long p0), .second, .val (.long q0), .second, .val (.int (3 : Int32)), .val (.int (Int32.ofNat d0)), .val (.int (Int32.ofNat d1)), .val (.int (Int32.ofNat d2)), .val (.int v0), .val (.int v1), .val (.int v2), .val (.ref x129), .val (.ref x138), .val (.ref x168), .unset, .unset, .unset, .unset, .unset]) P168.q at_238 rfl rfl rfl ?_
    refine W.g_iload (pc1 := 242) P168.q at_240 rfl rfl ?_
    refine P168.newP (pc1 := 244) (cap := 3) (wd hw (k := 8) rfl) (by decide) (by decide) (by decide) (by decide) (by decide) at_242 rfl ?_
    intro T169 h169 x169 k169 g169 P169 E169 V169
    have VW1 := (VW.ext E168).ext E169
    have VZ1 := (VZ.ext E168).ext E169
    have Vd1 := V168.ext E169
    have hdf : x168 ≠ x169 := Nat.ne_of_lt (by rw [g169]; exact V168.lt)
    have hwd : x129 ≠ x168 := Nat.ne_of_lt (by rw [g168]; exact VW.lt)
    have hzd : x138 ≠ x168 := Nat.ne_of_lt (by rw [g168]; exact VZ.lt)
    have hwf : x129 ≠ x169 := Nat.ne_of_lt (by rw [g169]; exact (VW.ext E168).lt)
    have hzf : x138 ≠ x169 := Nat.ne_of_lt (by rw [g169]; exact (VZ.ext E168).lt)
    refine W.g_astore (pc1 := 246) (ls2 := #[.val (.int a), .val (.int x0), .val (.int x1), .val (.int x2), .val (.long p0), .second, .val (.long q0), .second, .val (.int (3 : Int32)), .val (.int (Int32.ofNat d0)), .val (.int (Int32.ofNat d1)), .val (.int (Int32.ofNat d2)), .val (.int v0), .val (.int v1), .val (.int v2), .val (.ref x129), .val (.ref x138), .val (.ref x168), .val (.ref x169), .unset, .unset, .unset, .unset]) P169.q at_244 rfl rfl rfl ?_
    refine W.g_lconst (pc1 := 247) (v := (0 : Int64)) P169.q at_246 (by decide) rfl ?_
    refine W.g_lstore (pc1 := 249) (ls2 := #[.val (.int a), .val (.int x0), .val (.int x1), .val (.int x2), .val (.long p0), .second, .val (.long q0), .second, .val (.int (3 : Int32)), .val (.int (Int32.ofNat d0)), .val (.int (Int32.ofNat d1)), .val (.int (Int32.ofNat d2)), .val (.int v0), .val (.int v1), .val (.int v2), .val (.ref x129), .val (.ref x138), .val (.ref x168), .val (.ref x169), .val (.long (0 : Int64)), .second, .unset, .unset]) P169.q at_247 rfl rfl ?_
    refine W.g_iload (pc1 := 251) P169.q at_249 rfl rfl ?_
    refine W.g_iconst (pc1 := 252) (v := (1 : Int32)) P169.q at_251 (by decide) rfl ?_
    refine W.g_cmpN (pc2 := 255) P169.q at_252 rfl (by decide) ?_
    refine W.g_aload (pc1 := 257) P169.q at_255 rfl rfl rfl ?_
    refine W.g_iconst (pc1 := 258) (v := (0 : Int32)) P169.q at_257 (by decide) rfl ?_
    refine W.g_iload (pc1 := 260) P169.q at_258 rfl rfl ?_
    refine P169.stI (pc1 := 261) (i := 0) Vd1 (by decide) (by decide) (Nat.le_of_ble_eq_true rfl) rfl (Or.inr (by rw [g168]; exact P146.sz)) (Safe.arv P169.al Vd1 (by decide)) at_260 rfl ?_
    intro T170 h170 P170 W170 V170
    have Vf170 := V169.other W170 (Ne.symm hdf)
    have VW170 := VW1.other W170 hwd
    have VZ170 := VZ1.other W170 hzd
    refine W.g_aload (pc1 := 263) P170.q at_261 rfl rfl rfl ?_
    refine W.g_iconst (pc1 := 264) (v := (0 : Int32)) P170.q at_263 (by decide) rfl ?_
    refine W.g_iload (pc1 := 266) P170.q at_264 rfl rfl ?_
    refine W.g_i2f (pc1 := 267) P170.q at_266 rfl ?_
    refine P170.stF (pc1 := 268) (i := 0) Vf170 (by decide) (by decide) (Nat.le_of_ble_eq_true rfl) rfl (Or.inr (by rw [g169]; exact P168.sz)) (Safe.arv P170.al Vf170 (by decide)) at_267 rfl ?_
    intro T171 h171 P171 W171 V171
    have Vd171 := V170.other W171 hdf
    have VW171 := VW170.other W171 hwf
    have VZ171 := VZ170.other W171 hzf
    refine W.g_lload (pc1 := 270) P171.q at_268 rfl rfl ?_
    refine W.g_iload (pc1 := 272) P171.q at_270 rfl rfl ?_
    refine W.g_i2l (pc1 := 273) P171.q at_272 rfl ?_
    refine W.g_aload (pc1 := 275) P171.q at_273 rfl rfl rfl ?_
    refine W.g_iload (pc1 := 277) P171.q at_275 rfl rfl ?_
    refine P171.ldJ (pc1 := 278) (v := (.long (g d0))) VW171 (own_nn32 (by omega)) (by rw [own_n32 (by omega)]; show d0 < 8; omega) (by rw [own_n32 (by omega)]; exact hW d0 (by omega)) at_277 rfl ?_
    refine W.g_lmul (pc1 := 279) P171.q at_278 rfl ?_
    refine W.g_ladd (pc1 := 280) P171.q at_279 rfl ?_
    refine W.g_lstore (pc1 := 282) (ls2 := #[.val (.int a), .val (.int x0), .val (.int x1), .val (.int x2), .val (.long p0), .second, .val (.long q0), .second, .val (.int (3 : Int32)), .val (.int (Int32.ofNat d0)), .val (.int (Int32.ofNat d1)), .val (.int (Int32.ofNat d2)), .val (.int v0), .val (.int v1), .val (.int v2), .val (.ref x129), .val (.ref x138), .val (.ref x168), .val (.ref x169), .val (.long ((0 : Int64) + (v0.toInt64 * (g d0)))), .second, .unset, .unset]) P171.q at_280 rfl rfl ?_
    refine W.g_iload (pc1 := 284) P171.q at_282 rfl rfl ?_
    refine W.g_iconst (pc1 := 285) (v := (2 : Int32)) P171.q at_284 (by decide) rfl ?_
    refine W.g_cmpN (pc2 := 288) P171.q at_285 rfl (by decide) ?_
    refine W.g_aload (pc1 := 290) P171.q at_288 rfl rfl rfl ?_
    refine W.g_iconst (pc1 := 291) (v := (1 : Int32)) P171.q at_290 (by decide) rfl ?_
    refine W.g_iload (pc1 := 293) P171.q at_291 rfl rfl ?_
    refine P171.stI (pc1 := 294) (i := 1) Vd171 (by decide) (by decide) (Nat.le_of_ble_eq_true rfl) rfl (Or.inr (by rw [g168]; exact P146.sz)) (Safe.arv P171.al Vd171 (by decide)) at_293 rfl ?_
    intro T172 h172 P172 W172 V172
    have Vf172 := V171.other W172 (Ne.symm hdf)
    have VW172 := VW171.other W172 hwd
    have VZ172 := VZ171.other W172 hzd
    refine W.g_aload (pc1 := 296) P172.q at_294 rfl rfl rfl ?_
    refine W.g_iconst (pc1 := 297) (v := (1 : Int32)) P172.q at_296 (by decide) rfl ?_
    refine W.g_iload (pc1 := 299) P172.q at_297 rfl rfl ?_
    refine W.g_i2f (pc1 := 300) P172.q at_299 rfl ?_
    refine P172.stF (pc1 := 301) (i := 1) Vf172 (by decide) (by decide) (Nat.le_of_ble_eq_true rfl) rfl (Or.inr (by rw [g169]; exact P168.sz)) (Safe.arv P172.al Vf172 (by decide)) at_300 rfl ?_
    intro T173 h173 P173 W173 V173
    have Vd173 := V172.other W173 hdf
    have VW173 := VW172.other W173 hwf
    have VZ173 := VZ172.other W173 hzf
    refine W.g_lload (pc1 := 303) P173.q at_301 rfl rfl ?_
    refine W.g_iload (pc1 := 305) P173.q at_303 rfl rfl ?_
    refine W.g_i2l (pc1 := 306) P173.q at_305 rfl ?_
    refine W.g_aload (pc1 := 308) P173.q at_306 rfl rfl rfl ?_
    refine W.g_iload (pc1 := 310) P173.q at_308 rfl rfl ?_
    refine P173.ldJ (pc1 := 311) (v := (.long (g d1))) VW173 (own_nn32 (by omega)) (by rw [own_n32 (by omega)]; show d1 < 8; omega) (by rw [own_n32 (by omega)]; exact hW d1 (by omega)) at_310 rfl ?_
    refine W.g_lmul (pc1 := 312) P173.q at_311 rfl ?_
    refine W.g_ladd (pc1 := 313) P173.q at_312 rfl ?_
    refine W.g_lstore (pc1 := 315) (ls2 := #[.val (.int a), .val (.int x0), .val (.int x1), .val (.int x2), .val (.long p0), .second, .val (.long q0), .second, .val (.int (3 : Int32)), .val (.int (Int32.ofNat d0)), .val (.int (Int32.ofNat d1)), .val (.int (Int32.ofNat d2)), .val (.int v0), .val (.int v1), .val (.int v2), .val (.ref x129), .val (.ref x138), .val (.ref x168), .val (.ref x169), .val (.long (((0 : Int64) + (v0.toInt64 * (g d0))) + (v1.toInt64 * (g d1)))), .second, .unset, .unset]) P173.q at_313 rfl rfl ?_
    refine W.g_iload (pc1 := 317) P173.q at_315 rfl rfl ?_
    refine W.g_iconst (pc1 := 318) (v := (3 : Int32)) P173.q at_317 (by decide) rfl ?_
    refine W.g_cmpN (pc2 := 321) P173.q at_318 rfl (by decide) ?_
    refine W.g_aload (pc1 := 323) P173.q at_321 rfl rfl rfl ?_
    refine W.g_iconst (pc1 := 324) (v := (2 : Int32)) P173.q at_323 (by decide) rfl ?_
    refine W.g_iload (pc1 := 326) P173.q at_324 rfl rfl ?_
    refine P173.stI (pc1 := 327) (i := 2) Vd173 (by decide) (by decide) (Nat.le_of_ble_eq_true rfl) rfl (Or.inr (by rw [g168]; exact P146.sz)) (Safe.arv P173.al Vd173 (by decide)) at_326 rfl ?_
    intro T174 h174 P174 W174 V174
    have Vf174 := V173.other W174 (Ne.symm hdf)
    have VW174 := VW173.other W174 hwd
    have VZ174 := VZ173.other W174 hzd
    refine W.g_aload (pc1 := 329) P174.q at_327 rfl rfl rfl ?_
    refine W.g_iconst (pc1 := 330) (v := (2 : Int32)) P174.q at_329 (by decide) rfl ?_
    refine W.g_iload (pc1 := 332) P174.q at_330 rfl rfl ?_
    refine W.g_i2f (pc1 := 333) P174.q at_332 rfl ?_
    refine P174.stF (pc1 := 334) (i := 2) Vf174 (by decide) (by decide) (Nat.le_of_ble_eq_true rfl) rfl (Or.inr (by rw [g169]; exact P168.sz)) (Safe.arv P174.al Vf174 (by decide)) at_333 rfl ?_
    intro T175 h175 P175 W175 V175
    have Vd175 := V174.other W175 hdf
    have VW175 := VW174.other W175 hwf
    have VZ175 := VZ174.other W175 hzf
    refine W.g_lload (pc1 := 336) P175.q at_334 rfl rfl ?_
    refine W.g_iload (pc1 := 338) P175.q at_336 rfl rfl ?_
    refine W.g_i2l (pc1 := 339) P175.q at_338 rfl ?_
    refine W.g_aload (pc1 := 341) P175.q at_339 rfl rfl rfl ?_
    refine W.g_iload (pc1 := 343) P175.q at_341 rfl rfl ?_
    refine P175.ldJ (pc1 := 344) (v := (.long (g d2))) VW175 (own_nn32 (by omega)) (by rw [own_n32 (by omega)]; show d2 < 8; omega) (by rw [own_n32 (by omega)]; exact hW d2 (by omega)) at_343 rfl ?_
    refine W.g_lmul (pc1 := 345) P175.q at_344 rfl ?_
    refine W.g_ladd (pc1 := 346) P175.q at_345 rfl ?_
    refine W.g_lstore (pc1 := 348) (ls2 := #[.val (.int a), .val (.int x0), .val (.int x1), .val (.int x2), .val (.long p0), .second, .val (.long q0), .second, .val (.int (3 : Int32)), .val (.int (Int32.ofNat d0)), .val (.int (Int32.ofNat d1)), .val (.int (Int32.ofNat d2)), .val (.int v0), .val (.int v1), .val (.int v2), .val (.ref x129), .val (.ref x138), .val (.ref x168), .val (.ref x169), .val (.long ((((0 : Int64) + (v0.toInt64 * (g d0))) + (v1.toInt64 * (g d1))) + (v2.toInt64 * (g d2)))), .second, .unset, .unset]) P175.q at_346 rfl rfl ?_
    have hg0 := hB d0 (by omega)
    have m0 := own_mulb hv0 hg0
    have n0 := (Num.ofF hv0).mul (Num.ofL (own_b hg0)) (by omega)
    have hg1 := hB d1 (by omega)
    have m1 := own_mulb hv1 hg1
    have n1 := (Num.ofF hv1).mul (Num.ofL (own_b hg1)) (by omega)
    have hg2 := hB d2 (by omega)
    have m2 := own_mulb hv2 hg2
    have n2 := (Num.ofF hv2).mul (Num.ofL (own_b hg2)) (by omega)
    have nm0 : Num 0 0 := by have q := Num.ofL (a := 0) (by decide); rw [show FP.Core.l2d 0 = 0 from FP.Core.l2d_zero] at q; exact q
    have r0 := nm0.add n0 (by omega)
    have r1 := r0.add n1 (by omega)
    have r2 := r1.add n2 (by omega)
    have z0 : (0 : Int64).toInt = 0 := rfl
    have s0 := own_addL z0 (own_mulL hv0 hg0) (by omega) (by omega)
    have s1 := own_addL s0 (own_mulL hv1 hg1) (by omega) (by omega)
    have s2 := own_addL s1 (own_mulL hv2 hg2) (by omega) (by omega)
    refine P175.newO (pc1 := 351) (wd hw (k := 9) rfl) (wd hw (k := 10) rfl) (wd hw (k := 11) rfl) (by decide) (by decide) at_348 rfl ?_
    intro T176 h176 x176 g176 P176 E176 A176 D176 U176
    refine W.g_dup (pc1 := 352) P176.q at_351 rfl rfl ?_
    refine W.g_aload (pc1 := 354) P176.q at_352 rfl rfl rfl ?_
    refine W.g_aload (pc1 := 356) P176.q at_354 rfl rfl rfl ?_
    have Ndimensions : Fld Z h176 x176 "com/example/intent_search/intentsearch/rank/CategoryVector" "dimensions" "[I" .null := D176 (Or.inr (wd hw (k := 19) rfl)) (ty := (.array .int)) (by decide)
    have Nvalues : Fld Z h176 x176 "com/example/intent_search/intentsearch/rank/CategoryVector" "values" "[F" .null := D176 (Or.inr (wd hw (k := 21) rfl)) (ty := (.array .float)) (by decide)
    refine P176.callN (pc1 := 359) rfl (wd hw (k := 12) rfl) (wd hw (k := 13) rfl) (wd hw (k := 14) rfl) (by decide) (W.MetN.pay (W := 1) (c_cv l Z a0 hw x176 x168 x169 h176 A176 _ Ndimensions _ Nvalues) P176 (wd hw (k := 14) rfl) (wd hw (k := 11) rfl) (by decide) (by decide)) (argsL := [(.ref x168), (.ref x169)]) (st0 := [(.ref x176)]) (lenOf pd_AIAF_R_V rfl) rfl rfl (Nat.le_of_eq rfl) (by rw [hml]; rfl) (by decide) (by decide) (fun _ _ _ q => ⟨q.2.1.up P176.sz (allS (Or.inr (by rw [g176]; exact P175.sz)) all0), CHr.keep q.2.2.1 (sfS (Safe.exa P176.al A176 (by decide) (by decide)) sf0) P176.chv⟩) at_356 rfl ?_
    intro v177 T177 h177 L177 q177 P177
    obtain ⟨rfl, f177, K177, A177, Fd177, Fv177⟩ := q177
    show W.Go p.tables e below _ (T177.setTop (mkF m 359 #[.val (.int a), .val (.int x0), .val (.int x1), .val (.int x2), .val (.long p0), .second, .val (.long q0), .second, .val (.int (3 : Int32)), .val (.int (Int32.ofNat d0)), .val (.int (Int32.ofNat d1)), .val (.int (Int32.ofNat d2)), .val (.int v0), .val (.int v1), .val (.int v2), .val (.ref x129), .val (.ref x138), .val (.ref x168), .val (.ref x169), .val (.long ((((0 : Int64) + (v0.toInt64 * (g d0))) + (v1.toInt64 * (g d1))) + (v2.toInt64 * (g d2)))), .second, .unset, .unset] [(.ref x176)]))
    have Vdq := (Vd175.ext E176).keep K177 (ninS (Ne.symm (Exa.neArv A176 (Vd175.ext E176) (wd hw (k := 10) rfl))) nin0)
    have Vfq := (V175.ext E176).keep K177 (ninS (Ne.symm (Exa.neArv A176 (V175.ext E176) (wd hw (k := 10) rfl))) nin0)
    have VZq := (VZ175.ext E176).keep K177 (ninS (Ne.symm (Exa.neArv A176 (VZ175.ext E176) (wd hw (k := 10) rfl))) nin0)
    refine W.g_aload (pc1 := 361) P177.q at_359 rfl rfl rfl ?_
    refine P177.callV (pc1 := 364) A177 (wd hw (k := 22) rfl) (wd hw (k := 23) rfl) (wd hw (k := 25) rfl) (wd hw (k := 24) rfl) (notFace_of_selects (args := #[]) (mvT P177.hz (wd hw (k := 25) rfl))) (by decide) (W.MetN.pay (W := 0) (c_dot3 l Z a0 hw x176 x168 x169 x138 _ _ _ (fun i => FP.l2d (g i)) _ (FP.i2f v0) d0 (by omega) (Num.ofF hv0).no n0.no r0.no (FP.i2f v1) d1 (by omega) (Num.ofF hv1).no n1.no r1.no (FP.i2f v2) d2 (by omega) (Num.ofF hv2).no n2.no r2.no h177 Fd177 Fv177 Vdq Vfq VZq hZ) P177 (wd hw (k := 26) rfl) (wd hw (k := 11) rfl) (by decide) (by decide)) (argsL := [(.ref x138)]) (st0 := []) (lenOf pd_AD_R_D rfl) rfl rfl (Nat.le_of_eq rfl) (by rw [hml]; rfl) (by decide) (by decide) (W.Pure.ok P177.chv) at_361 rfl ?_
    intro v178 T178 h178 L178 q178 P178
    obtain ⟨rfl, rfl, rfl⟩ := q178
    show W.Go p.tables e below _ (T178.setTop (mkF m 364 #[.val (.int a), .val (.int x0), .val (.int x1), .val (.int x2), .val (.long p0), .second, .val (.long q0), .second, .val (.int (3 : Int32)), .val (.int (Int32.ofNat d0)), .val (.int (Int32.ofNat d1)), .val (.int (Int32.ofNat d2)), .val (.int v0), .val (.int v1), .val (.int v2), .val (.ref x129), .val (.ref x138), .val (.ref x168), .val (.ref x169), .val (.long ((((0 : Int64) + (v0.toInt64 * (g d0))) + (v1.toInt64 * (g d1))) + (v2.toInt64 * (g d2)))), .second, .unset, .unset] [(.double (FP.dadd (FP.dadd (FP.dadd (0 : UInt64) (FP.dmul (FP.f2d (FP.i2f v0)) (FP.l2d (g d0)))) (FP.dmul (FP.f2d (FP.i2f v1)) (FP.l2d (g d1)))) (FP.dmul (FP.f2d (FP.i2f v2)) (FP.l2d (g d2)))))]))
    refine W.g_dstore (pc1 := 366) (ls2 := #[.val (.int a), .val (.int x0), .val (.int x1), .val (.int x2), .val (.long p0), .second, .val (.long q0), .second, .val (.int (3 : Int32)), .val (.int (Int32.ofNat d0)), .val (.int (Int32.ofNat d1)), .val (.int (Int32.ofNat d2)), .val (.int v0), .val (.int v1), .val (.int v2), .val (.ref x129), .val (.ref x138), .val (.ref x168), .val (.ref x169), .val (.long ((((0 : Int64) + (v0.toInt64 * (g d0))) + (v1.toInt64 * (g d1))) + (v2.toInt64 * (g d2)))), .second, .val (.double (FP.dadd (FP.dadd (FP.dadd (0 : UInt64) (FP.dmul (FP.f2d (FP.i2f v0)) (FP.l2d (g d0)))) (FP.dmul (FP.f2d (FP.i2f v1)) (FP.l2d (g d1)))) (FP.dmul (FP.f2d (FP.i2f v2)) (FP.l2d (g d2))))), .second]) P178.q at_364 rfl rfl ?_
    refine W.g_dload (pc1 := 368) P178.q at_366 rfl rfl ?_
    refine W.g_lload (pc1 := 370) P178.q at_368 rfl rfl ?_
    refine W.g_l2d (pc1 := 371) P178.q at_370 rfl ?_
    refine W.g_dcmp (pc1 := 372) P178.q at_371 rfl ?_
    have hcmp : cmpValue (FP.dcmp (FP.dadd (FP.dadd (FP.dadd (0 : UInt64) (FP.dmul (FP.f2d (FP.i2f v0)) (FP.l2d (g d0)))) (FP.dmul (FP.f2d (FP.i2f v1)) (FP.l2d (g d1)))) (FP.dmul (FP.f2d (FP.i2f v2)) (FP.l2d (g d2)))) (FP.l2d ((((0 : Int64) + (v0.toInt64 * (g d0))) + (v1.toInt64 * (g d1))) + (v2.toInt64 * (g d2))))) .l = 0 := by
      have q := Num.ofL (a := ((((0 : Int64) + (v0.toInt64 * (g d0))) + (v1.toInt64 * (g d1))) + (v2.toInt64 * (g d2)))) (by rw [s2]; omega)
      rw [s2] at q
      exact Num.cmp r2 q .l
    rw [hcmp]
    refine W.g_ifN (pc2 := 375) P178.q at_372 rfl (by decide) ?_
    refine W.g_iconst (pc1 := 376) (v := (1 : Int32)) P178.q at_375 (by decide) rfl ?_
    refine W.g_goto (pc1 := 380) P178.q at_376 (by decide) rfl ?_
    exact P178.retVN hlk hret (Or.inl rfl) at_380 (by decide) (by decide) ⟨rfl, P178.fr⟩
set_option maxRecDepth 65536 in
set_option maxHeartbeats 40000000 in
theorem comes_1 {Post : Tables → Env → Array Value → State → Outcome → State → Prop} (hpost : ∀ tb e args s v u, (limb_1_1.after args s (.returned v) u = true ∧ limb_1_2.after args s (.returned v) u = true ∧ True) → FrameEnd s (.returned v) u (Jvm.fieldLocs frame_1_writes args s ++ Jvm.arrayLocs frame_1_arrays args s ++ Jvm.staticLocs frame_1_statics s) 24 128 → Post tb e args s (.returned v) u) :
    ArmFor flags0 classFile x code maxLocals ret World_1 tables_1 room_1 Calls_1 rest_1 Pre_1 Post := by
  intro l hfl _ _ p e ha hc hk s m args below hf hA hF happ hP
  obtain ⟨hcalls, hrest, hpre⟩ := hP
  obtain ⟨-, -, -, hnamed, -, -, -, hat⟩ := (Spec.applies_iff hf).mp happ
  obtain ⟨hg, hn⟩ := and_e (Cond.before_iff.mp (show (Jvm.Cond.and given_1 narrow_1).before args s = true from hpre))
  obtain ⟨hcnt, hg0⟩ := and_e hg
  obtain ⟨ga0, hg1⟩ := and_e hg0
  obtain ⟨ga1, hg2⟩ := and_e hg1
  obtain ⟨ga2, hg3⟩ := and_e hg2
  obtain ⟨ga3, hg4⟩ := and_e hg3
  obtain ⟨ga4, hg5⟩ := and_e hg4
  have ga5 := hg5
  obtain ⟨w0, w1, w2, w3, w4, w5, rfl⟩ : ∃ w0 w1 w2 w3 w4 w5 : Value, args = #[w0, w1, w2, w3, w4, w5] := by
    have hs : args.size = 6 := by simpa [Cond.value, given_1] using hcnt
    obtain ⟨L⟩ := args
    match L, hs with
    | [w0, w1, w2, w3, w4, w5], _ => exact ⟨w0, w1, w2, w3, w4, w5, rfl⟩
  have hw := fun d (hd : d ∈ tables_1) => atoms_spec (ws := Jvm.Cond.code x code maxLocals ret :: tables_1) hat d (List.mem_cons_of_mem _ hd)
  obtain ⟨i0, ei0⟩ := is_v ga0
  obtain rfl : w0 = (.int i0) := Option.some.inj ei0
  obtain ⟨i1, ei1⟩ := is_v ga1
  obtain rfl : w1 = (.int i1) := Option.some.inj ei1
  obtain ⟨i2, ei2⟩ := is_v ga2
  obtain rfl : w2 = (.int i2) := Option.some.inj ei2
  obtain ⟨i3, ei3⟩ := is_v ga3
  obtain rfl : w3 = (.int i3) := Option.some.inj ei3
  obtain ⟨i4, ei4⟩ := isL_v ga4
  obtain rfl : w4 = (.long i4) := Option.some.inj ei4
  obtain ⟨i5, ei5⟩ := isL_v ga5
  obtain rfl : w5 = (.long i5) := Option.some.inj ei5
  obtain ⟨n, o, h1, h2, h3, _, L, rfl, ⟨rfl, N⟩, hq⟩ := rm1 l s _ hw i0 i1 i2 i3 i4 i5 s.heap p e ha hc hk s m _ below hf ((Spec.applies_iff_loose hf).mp happ).1 ⟨rfl, State.Warmed39.refl s, rfl⟩ trivial
  refine ⟨n, _, h1, h2, h3, hpost _ _ _ _ _ _ ⟨Cond.after_iff.mpr rfl, Cond.after_iff.mpr (eq_i res_at (Term.int_eval (1)) rfl), trivial⟩ ⟨hq.1, hq.2.1, (hq.2.2.sift fun y hy => Or.inr ((N y hy).elim (fun q => nomatch q) id)).mono (by decide) (by decide)⟩⟩
theorem main_1_1 : Claimed_1_1 := comes_1 fun _ _ _ _ _ _ h hF => ⟨h.1, hF⟩
theorem main_1_2 : Claimed_1_2 := comes_1 fun _ _ _ _ _ _ h hF => ⟨h.2.1, hF⟩
end Jvm.Pilot.@@N@@
namespace Jvm.Pilot.@@N@@
open Jvm Jvm.ClassFile Sem Op Lib Jvm.Free Jvm.Stand Jvm.Pilot.@@N@@.Jvm.D
/-! MADE BY PROGRAM (witnessworld.py) out of the Statement's table words and the real class files: 15 classes; the members and pool entries that the words name. The judged class is class 1, her method 1. -/
namespace start1
open Jvm.ClassFile
def u (s : String) : CpInfo := .utf8 (stringToUtf16 s)
/-- a pool by its gaps: so many unusable entries, then the entry; so many at the end -/
def gap : Nat → List CpInfo → List CpInfo
  | 0, r => r
  | n + 1, r => .unusable :: gap n r
def poolList (es : List (Nat × CpInfo)) (last : Nat) : List CpInfo := es.foldr (fun e r => gap e.1 (e.2 :: r)) (gap last [])
def pool (es : List (Nat × CpInfo)) (last : Nat) : Array CpInfo := ⟨poolList es last⟩
def fileOf (pool : Array CpInfo) (this : Nat) (attrs : Array Attribute := #[]) (ms : Array MethodInfo := #[]) (fl : Nat := 33) (sup : Nat := 0) (ifs : Array Nat := #[]) (fds : Array FieldInfo := #[]) : ClassFile where
  minorVersion := 0
  majorVersion := 65
  constantPool := pool
  accessFlags := fl
  thisClass := this
  superClass := sup
  interfaces := ifs
  fields := fds
  methods := ms
  attributes := attrs
def plain (name : String) (sup : Option ClassId) : Class where
  name := name
  kind := .ordinary
  loader := none
  accessFlags := 33
  super := sup
  interfaces := #[]
  cf := none
  fields := #[]
  methods := #[]
  instanceTypes := #[]
  staticTypes := #[]
  resolved := #[]
  callSites := []
  init := .initialized
  statics := none
  mirror := none

def pool0 : Array CpInfo := pool [(5, u "<init>"), (0, u "()V"), (1, .class_ 10), (1, u "java/lang/Object")] 113

def k0c0 : Code := { maxStack := 0, maxLocals := 1, code := object_method_1_code, exceptionTable := #[], attributes := #[] }
def k0m0 : Method := { name := "<init>", desc := "()V", sig := { parameters := [], returnType := none }, accessFlags := 1, code := some k0c0 }
/-- java/lang/Object -/
def k0 : Class := { plain "java/lang/Object" none with
  accessFlags := 33
  interfaces := #[]
  cf := some (fileOf pool0 8 #[] #[{ accessFlags := 1, nameIndex := 5, descriptorIndex := 6, attributes := #[] }] 33 0 #[] #[])
  fields := #[]
  methods := #[k0m0]
  instanceTypes := #[]
  staticTypes := #[]
  resolved := Array.replicate 124 none
  statics := none }

def pool1 : Array CpInfo := pool [(2, .class_ 4), (1, u "java/lang/Object"), (0, u "<init>"), (0, u "()V"), (0, .methodref 8 9), (0, .class_ 10), (0, .nameAndType 11 12), (0, u "com/example/intent_search/intentsearch/rank/CategoryVectorDotPinLaw"), (0, u "mag"), (0, u "(I)I"), (0, .class_ 14), (0, u "com/example/intent_search/intentsearch/rank/CategoryVector"), (0, .methodref 13 16), (0, .nameAndType 5 17), (0, u "([I[F)V"), (0, .methodref 13 19), (0, .nameAndType 20 21), (0, u "dot"), (0, u "([D)D"), (0, .integer 16777215), (2, u "law"), (0, u "(IIIIJJ)Z")] 11

def k1m0 : Method := { name := "<init>", desc := "()V", sig := { parameters := [], returnType := none }, accessFlags := 1, code := none }
def k1c1 : Code := { maxStack := 6, maxLocals := 23, code := code, exceptionTable := #[], attributes := #[] }
def k1m1 : Method := { name := "law", desc := "(IIIIJJ)Z", sig := { parameters := [.int, .int, .int, .int, .long, .long], returnType := some .boolean }, accessFlags := 9, code := some k1c1 }
def k1c2 : Code := { maxStack := 2, maxLocals := 2, code := method_3_code, exceptionTable := #[], attributes := #[] }
def k1m2 : Method := { name := "mag", desc := "(I)I", sig := { parameters := [.int], returnType := some .int }, accessFlags := 10, code := some k1c2 }
/-- com/example/intent_search/intentsearch/rank/CategoryVectorDotPinLaw -/
def k1 : Class := { plain "com/example/intent_search/intentsearch/rank/CategoryVectorDotPinLaw" (some 0) with
  accessFlags := 49
  interfaces := #[]
  cf := some (fileOf pool1 8 #[] #[{ accessFlags := 1, nameIndex := 5, descriptorIndex := 6, attributes := #[] }, { accessFlags := 9, nameIndex := 25, descriptorIndex := 26, attributes := #[] }, { accessFlags := 10, nameIndex := 11, descriptorIndex := 12, attributes := #[] }] 49 2 #[] #[])
  fields := #[]
  methods := #[k1m0, k1m1, k1m2]
  instanceTypes := #[]
  staticTypes := #[]
  resolved := Array.replicate 38 none
  statics := none }

def pool2 : Array CpInfo := pool [(1, .methodref 2 3), (0, .class_ 4), (0, .nameAndType 5 6), (0, u "java/lang/Object"), (0, u "<init>"), (0, u "()V"), (0, .fieldref 8 9), (0, .class_ 10), (0, .nameAndType 11 12), (0, u "com/example/intent_search/intentsearch/rank/CategoryVector"), (0, u "dimensions"), (0, u "[I"), (0, .fieldref 8 14), (0, .nameAndType 15 16), (0, u "values"), (0, u "[F"), (20, u "([I[F)V"), (39, u "dot"), (0, u "([D)D")] 34

def k2c0 : Code := { maxStack := 2, maxLocals := 3, code := prog_31_method_1_code, exceptionTable := #[], attributes := #[] }
def k2m0 : Method := { name := "<init>", desc := "([I[F)V", sig := { parameters := [(.array .int), (.array .float)], returnType := none }, accessFlags := 0, code := some k2c0 }
def k2c1 : Code := { maxStack := 7, maxLocals := 5, code := prog_31_method_5_code, exceptionTable := #[], attributes := #[] }
def k2m1 : Method := { name := "dot", desc := "([D)D", sig := { parameters := [(.array .double)], returnType := some .double }, accessFlags := 0, code := some k2c1 }
/-- com/example/intent_search/intentsearch/rank/CategoryVector -/
def k2 : Class := { plain "com/example/intent_search/intentsearch/rank/CategoryVector" (some 0) with
  accessFlags := 48
  interfaces := #[]
  cf := some (fileOf pool2 8 #[] #[{ accessFlags := 0, nameIndex := 5, descriptorIndex := 37, attributes := #[] }, { accessFlags := 0, nameIndex := 77, descriptorIndex := 78, attributes := #[] }] 48 2 #[] #[{ accessFlags := 18, nameIndex := 11, descriptorIndex := 12, attributes := #[] }, { accessFlags := 18, nameIndex := 15, descriptorIndex := 16, attributes := #[] }])
  fields := #[{ name := "dimensions", type := (.array .int), accessFlags := 18, slot := 0, constantValue := 0 }, { name := "values", type := (.array .float), accessFlags := 18, slot := 1, constantValue := 0 }]
  methods := #[k2m0, k2m1]
  instanceTypes := #[(.array .int), (.array .float)]
  staticTypes := #[]
  resolved := Array.replicate 113 none
  statics := none }

def pool3 : Array CpInfo := pool [(1, u "java/lang/Cloneable"), (0, .class_ 1), (0, u "java/lang/Object"), (0, .class_ 3)] 3

/-- java/lang/Cloneable -/
def k3 : Class := { plain "java/lang/Cloneable" (some 0) with
  accessFlags := 1537
  interfaces := #[]
  cf := some (fileOf pool3 2 #[] #[] 1537 4 #[] #[])
  fields := #[]
  methods := #[]
  instanceTypes := #[]
  staticTypes := #[]
  resolved := Array.replicate 8 none
  statics := none }

def pool4 : Array CpInfo := pool [(1, u "java/io/Serializable"), (0, .class_ 1), (0, u "java/lang/Object"), (0, .class_ 3)] 3

/-- java/io/Serializable -/
def k4 : Class := { plain "java/io/Serializable" (some 0) with
  accessFlags := 1537
  interfaces := #[]
  cf := some (fileOf pool4 2 #[] #[] 1537 4 #[] #[])
  fields := #[]
  methods := #[]
  instanceTypes := #[]
  staticTypes := #[]
  resolved := Array.replicate 8 none
  statics := none }

/-- the primitive byte -/
def k5 : Class := { plain "byte" none with kind := .primitive 'B', accessFlags := 0x411 }
/-- [B -/
def k6 : Class := { plain "[B" (some 0) with kind := .array 5 .byte, interfaces := #[3, 4], accessFlags := 1041 }

/-- the primitive double -/
def k7 : Class := { plain "double" none with kind := .primitive 'D', accessFlags := 0x411 }
/-- [D -/
def k8 : Class := { plain "[D" (some 0) with kind := .array 7 .double, interfaces := #[3, 4], accessFlags := 1041 }

/-- the primitive float -/
def k9 : Class := { plain "float" none with kind := .primitive 'F', accessFlags := 0x411 }
/-- [F -/
def k10 : Class := { plain "[F" (some 0) with kind := .array 9 .float, interfaces := #[3, 4], accessFlags := 1041 }

/-- the primitive int -/
def k11 : Class := { plain "int" none with kind := .primitive 'I', accessFlags := 0x411 }
/-- [I -/
def k12 : Class := { plain "[I" (some 0) with kind := .array 11 .int, interfaces := #[3, 4], accessFlags := 1041 }

/-- the primitive long -/
def k13 : Class := { plain "long" none with kind := .primitive 'J', accessFlags := 0x411 }
/-- [J -/
def k14 : Class := { plain "[J" (some 0) with kind := .array 13 .long, interfaces := #[3, 4], accessFlags := 1041 }

def heap : Heap := #[]
def classes : Array Class := #[k0, k1, k2, k3, k4, k5, k6, k7, k8, k9, k10, k11, k12, k13, k14]
def interned : List (Array UInt16 × Addr) := []
def slotsUsed : Nat := 0
def theMethod : MethodId := ⟨1, 1⟩
def args0 : Array Value := #[.int 5, .int 5, .int 5, .int 5, .long 5, .long 5]
def aboutOver (below : List Frame) : State where
  vm := { classes := classes, interned := interned.toArray }
  heap := heap
  slotsUsed := slotsUsed
  threads := #[{ frames := .invoking theMethod args0 :: below }]
def below0 : List Frame := [.native { method := ⟨0, 0⟩, args := #[] }]
def about1 : State := aboutOver below0
def p0 : Program := .bare "" "" ""
def e0 : Env := launch0.env 0 0 0
theorem w_frames : about1.frames = Frame.invoking theMethod args0 :: below0 := rfl
set_option maxRecDepth 65536 in
theorem w_args : argsFit about1.vm theMethod args0 = true := by decide +kernel
set_option maxRecDepth 65536 in
theorem w_heap : heapFits about1 = true := by decide +kernel
set_option maxRecDepth 65536 in
theorem w_runnable : about1.curStatus? = some .runnable := by decide +kernel
set_option maxRecDepth 65536 in
theorem w_alone : about1.alone = true := by decide +kernel
set_option maxRecDepth 65536 in
theorem w_named : about1.methodNamed? x = some theMethod := by decide +kernel
set_option maxRecDepth 65536 in
theorem w_hears : about1.hears theMethod below0 = true := by decide +kernel
set_option maxRecDepth 65536 in
theorem w_ripe : about1.ripe theMethod args0 below0 = true := by decide +kernel
theorem w_running : about1.status = .running := rfl
set_option maxRecDepth 65536 in
theorem w_room : about1.hasRoom e0.platform room_1 = true :=
  launch0.hasRoom_least _ room_1 (by decide +kernel) (by decide +kernel) (by decide +kernel) (by decide +kernel) (by decide +kernel) (by decide +kernel)
theorem allAtoms_all (ts : List Jvm.Cond) (a : Array Jvm.Value) (st : Jvm.State) : (allAtoms ts).before a st = ts.all (fun c => c.before a st) := by
  induction ts with
  | nil => rfl
  | cons c t ih =>
    show (Jvm.Cond.and c (allAtoms t)).before a st = _
    rw [Jvm.Cond.before_and, ih, List.all_cons]
def words1 : List Jvm.Cond := Jvm.Cond.code x code maxLocals ret :: tables_1
/-- a 'code' word, met by the world's own term for the bytes: nothing is compared byte by byte -/
theorem code_word {y : MethodName} {bytes : ByteArray} {mx : Nat} {rt : Option FieldType} {a : Array Value} {s : State} {m : MethodId} {meth : Method} {c : Code} (h1 : s.methodNamed? y = some m) (h2 : s.vm.method? m = some meth) (h3 : meth.code = some c) (h4 : c.code = bytes)
    (h5 : (c.maxLocals == mx && c.exceptionTable.isEmpty && decide (c.maxStack ≤ mostOperands) && decide (meth.sig.returnType = rt) && !meth.locks && decide (parseMethodDescriptor y.desc = some meth.sig)) = true) : (Jvm.Cond.code y bytes mx rt).before a s = true := by
  simp only [Bool.and_eq_true, beq_iff_eq, Bool.not_eq_true', decide_eq_true_eq] at h5
  obtain ⟨⟨⟨⟨⟨g1, g2⟩, g3⟩, g4⟩, g5⟩, g6⟩ := h5
  simp [Cond.before, Cond.holds, Cond.value, h1, h2, h3, h4, g1, g2, g3, g4, g5, g6]
def isCode : Jvm.Cond → Bool
  | .code _ _ _ _ => true
  | _ => false
theorem all_split {L : List Jvm.Cond} {P : Jvm.Cond → Bool} (h1 : L.all (fun c => isCode c || P c) = true) (h2 : ∀ c ∈ L.filter isCode, P c = true) : L.all P = true := by
  refine List.all_eq_true.mpr fun c hc => ?_
  have h := List.all_eq_true.mp h1 c hc
  rcases Bool.eq_false_or_eq_true (isCode c) with hi | hi
  · exact h2 c (List.mem_filter.mpr ⟨hc, hi⟩)
  · simpa [hi] using h
set_option maxRecDepth 65536 in
theorem w_c0 : (Jvm.Cond.code x code maxLocals ret).before args0 about1 = true := code_word (m := ⟨1, 1⟩) (meth := k1m1) (c := k1c1) (by decide +kernel) rfl rfl rfl (by decide +kernel)
set_option maxRecDepth 65536 in
theorem w_c1 : (Jvm.Cond.code ({ cls := "com/example/intent_search/intentsearch/rank/CategoryVectorDotPinLaw", name := "mag", desc := "(I)I" } : Jvm.MethodName) method_3_code (2 : Nat) (Option.some Jvm.ClassFile.FieldType.int)).before args0 about1 = true := code_word (m := ⟨1, 2⟩) (meth := k1m2) (c := k1c2) (by decide +kernel) rfl rfl rfl (by decide +kernel)
set_option maxRecDepth 65536 in
theorem w_c2 : (Jvm.Cond.code ({ cls := "com/example/intent_search/intentsearch/rank/CategoryVector", name := "<init>", desc := "([I[F)V" } : Jvm.MethodName) prog_31_method_1_code (3 : Nat) (Option.none : Option Jvm.ClassFile.FieldType)).before args0 about1 = true := code_word (m := ⟨2, 0⟩) (meth := k2m0) (c := k2c0) (by decide +kernel) rfl rfl rfl (by decide +kernel)
set_option maxRecDepth 65536 in
theorem w_c3 : (Jvm.Cond.code ({ cls := "java/lang/Object", name := "<init>", desc := "()V" } : Jvm.MethodName) object_method_1_code (1 : Nat) (Option.none : Option Jvm.ClassFile.FieldType)).before args0 about1 = true := code_word (m := ⟨0, 0⟩) (meth := k0m0) (c := k0c0) (by decide +kernel) rfl rfl rfl (by decide +kernel)
set_option maxRecDepth 65536 in
theorem w_c4 : (Jvm.Cond.code ({ cls := "com/example/intent_search/intentsearch/rank/CategoryVector", name := "dot", desc := "([D)D" } : Jvm.MethodName) prog_31_method_5_code (5 : Nat) (Option.some Jvm.ClassFile.FieldType.double)).before args0 about1 = true := code_word (m := ⟨2, 1⟩) (meth := k2m1) (c := k2c1) (by decide +kernel) rfl rfl rfl (by decide +kernel)
def codes1 : List Jvm.Cond := [Jvm.Cond.code x code maxLocals ret, Jvm.Cond.code ({ cls := "com/example/intent_search/intentsearch/rank/CategoryVectorDotPinLaw", name := "mag", desc := "(I)I" } : Jvm.MethodName) method_3_code (2 : Nat) (Option.some Jvm.ClassFile.FieldType.int), Jvm.Cond.code ({ cls := "com/example/intent_search/intentsearch/rank/CategoryVector", name := "<init>", desc := "([I[F)V" } : Jvm.MethodName) prog_31_method_1_code (3 : Nat) (Option.none : Option Jvm.ClassFile.FieldType), Jvm.Cond.code ({ cls := "java/lang/Object", name := "<init>", desc := "()V" } : Jvm.MethodName) object_method_1_code (1 : Nat) (Option.none : Option Jvm.ClassFile.FieldType), Jvm.Cond.code ({ cls := "com/example/intent_search/intentsearch/rank/CategoryVector", name := "dot", desc := "([D)D" } : Jvm.MethodName) prog_31_method_5_code (5 : Nat) (Option.some Jvm.ClassFile.FieldType.double)]
set_option maxRecDepth 65536 in
theorem codes_eq : words1.filter isCode = codes1 := rfl
theorem w_codes : ∀ c ∈ words1.filter isCode, c.before args0 about1 = true := by
  rw [codes_eq]
  intro c hc
  simp only [codes1, List.mem_cons, List.not_mem_nil, or_false] at hc
  rcases hc with rfl | rfl | rfl | rfl | rfl
  · exact w_c0
  · exact w_c1
  · exact w_c2
  · exact w_c3
  · exact w_c4
set_option maxRecDepth 65536 in
theorem w_t1 : (words1.take 24).all (fun c => isCode c || c.before args0 about1) = true := by decide +kernel
set_option maxRecDepth 65536 in
theorem w_t2 : (words1.drop 24).all (fun c => isCode c || c.before args0 about1) = true := by decide +kernel
theorem w_tables : (allAtoms (Jvm.Cond.code x code maxLocals ret :: tables_1)).before args0 about1 = true := by
  rw [allAtoms_all]
  show words1.all (fun c => c.before args0 about1) = true
  refine all_split ?_ w_codes
  rw [← List.take_append_drop 24 words1, List.all_append, w_t1, w_t2]
  rfl
set_option maxRecDepth 65536 in
theorem w_case : (Jvm.Cond.and given_1 narrow_1).before args0 about1 = true := by decide +kernel
theorem w_applies : (headSpec (Jvm.Cond.code x code maxLocals ret :: tables_1) room_1).applies x e0.platform about1 = true :=
  (Spec.applies_iff w_frames).mpr ⟨w_running, w_runnable, w_alone, w_named, w_hears, w_ripe, w_room, w_tables⟩
theorem atStart : AtStart classFile x code maxLocals ret World_1 tables_1 room_1 Calls_1 rest_1 Pre_1 launch0 p0 e0 about1 theMethod args0 below0 :=
  ⟨lists_1, trivial, launch0.admits_env _ _ _, launch0.least_env, fairChoices_fair.cas, fairChoices_fair.clock, w_frames, w_args, w_heap, w_applies, trivial, trivial, w_case⟩
end start1
theorem witness_1 : WitnessClaimed_1 := ⟨start1.p0, start1.e0, start1.about1, start1.theMethod, start1.args0, start1.below0, start1.atStart⟩
end Jvm.Pilot.@@N@@

import JvmDerived
import JvmDerived.Pilot.@@N@@Statement
import JvmDerived.Pilot.@@N@@Code
set_option linter.unusedVariables false
set_option linter.unusedSimpArgs false
namespace Jvm.Pilot.@@N@@
open Jvm Jvm.ClassFile Sem Op Lib Jvm.Free Jvm.Stand Jvm.LawKit Jvm.RoadKit Bundle Jvm.Pilot.@@N@@.Jvm.D
section OwnKit
variable {p : Program} {l : Launch} {e : Env} {R : Room} {s : State} {m : MethodId} {args : Array Value} {below : List Frame} {meth : Method} {c : Code} {T : State} {locs : List Loc} {cells slots : Nat}
variable {Q : Option Value → Heap → List Loc → Prop} {K N : Nat}
/-- from the state U the body comes to its end, and leaves what Q says -/
def own_G (p : Program) (e : Env) (below : List Frame) (s : State) (Q : Option Value → Heap → List Loc → Prop) (K N : Nat) (U : State) : Prop :=
  ∃ s₂ o, Steps p.tables e below U s₂ ∧ s₂.status = .running ∧ Ended s₂ below o ∧ ∃ v L, o = .returned v ∧ Q v s₂.heap L ∧ FrameEnd s o s₂ L K N
theorem own_go {U U' : State} (h : ∀ t, Steps p.tables e below U' t → Steps p.tables e below U t) (k : own_G p e below s Q K N U') : own_G p e below s Q K N U := by
  obtain ⟨s₂, o, h1, r⟩ := k
  exact ⟨s₂, o, h _ h1, r⟩
theorem own_end (X : Stand p l e R s m args below meth c T locs cells slots) {v : Option Value} (hv : meth.sig.returnType = none → v = none) (hlocks : meth.locks = false) {U : State}
    (st : ∀ fs, (∀ (f : JFrame) (acts : List Action), f.method = m → f.locked = none → f.entered = [] → (doReturn e (T.setTop f) acts v).1 = T.setFrames fs) → Steps p.tables e below U (T.setFrames fs))
    (hQ : Q v T.heap locs) (hK : cells ≤ K) (hN : slots ≤ N) : own_G p e below s Q K N U := by
  obtain ⟨fs, hr, hrun, hended, hW, hsame⟩ := X.leave hv hlocks
  exact ⟨_, _, st fs hr, hrun, hended, _, _, rfl, hQ, ⟨_, rfl⟩, hW, hsame.mono hK hN⟩
theorem own_retI (X : Stand p l e R s m args below meth c T locs cells slots) (hx : p.tables.exec = Jvm.exec) {pc : Nat} {Ls : Array Slot} {z : Int32} {rest : List Value} (hret : meth.sig.returnType = some .int) (hlocks : meth.locks = false) (hd : decode c.code pc = .ok (.ireturn, 1))
    {h : Heap} (eT : T.heap = h) (hQ : Q (some (.int z)) h locs) (hK : cells ≤ K) (hN : slots ≤ N) : own_G p e below s Q K N (T.setTop (mkF m pc Ls (.int z :: rest))) :=
  own_end X (fun h => by rw [hret] at h; cases h) hlocks (fun fs hr => retOut X hx hret rfl (Or.inl ⟨rfl, Or.inl rfl, _, rfl⟩) hd hr) (by rw [eT]; exact hQ) hK hN
theorem own_retJ (X : Stand p l e R s m args below meth c T locs cells slots) (hx : p.tables.exec = Jvm.exec) {pc : Nat} {Ls : Array Slot} {z : Int64} {rest : List Value} (hret : meth.sig.returnType = some .long) (hlocks : meth.locks = false) (hd : decode c.code pc = .ok (.lreturn, 1))
    {h : Heap} (eT : T.heap = h) (hQ : Q (some (.long z)) h locs) (hK : cells ≤ K) (hN : slots ≤ N) : own_G p e below s Q K N (T.setTop (mkF m pc Ls (.long z :: rest))) :=
  own_end X (fun h => by rw [hret] at h; cases h) hlocks (fun fs hr => retOut X hx hret rfl (Or.inr (Or.inl ⟨rfl, rfl, _, rfl⟩)) hd hr) (by rw [eT]; exact hQ) hK hN
theorem own_retD (X : Stand p l e R s m args below meth c T locs cells slots) (hx : p.tables.exec = Jvm.exec) {pc : Nat} {Ls : Array Slot} {z : UInt64} {rest : List Value} (hret : meth.sig.returnType = some .double) (hlocks : meth.locks = false) (hd : decode c.code pc = .ok (.dreturn, 1))
    {h : Heap} (eT : T.heap = h) (hQ : Q (some (.double z)) h locs) (hK : cells ≤ K) (hN : slots ≤ N) : own_G p e below s Q K N (T.setTop (mkF m pc Ls (.double z :: rest))) :=
  own_end X (fun h => by rw [hret] at h; cases h) hlocks (fun fs hr => retOut X hx hret rfl (Or.inr (Or.inr (Or.inl ⟨rfl, rfl, _, rfl⟩))) hd hr) (by rw [eT]; exact hQ) hK hN
theorem own_retA {t : FieldType} (ht : t.isReference = true) {w : Value} (hv : w.isRef = true) (X : Stand p l e R s m args below meth c T locs cells slots) (hx : p.tables.exec = Jvm.exec) {pc : Nat} {Ls : Array Slot} {rest : List Value} (hret : meth.sig.returnType = some t) (hlocks : meth.locks = false) (hd : decode c.code pc = .ok (.areturn, 1))
    {h : Heap} (eT : T.heap = h) (hQ : Q (some w) h locs) (hK : cells ≤ K) (hN : slots ≤ N) : own_G p e below s Q K N (T.setTop (mkF m pc Ls (w :: rest))) :=
  own_end X (fun h => by rw [hret] at h; cases h) hlocks (fun fs hr => retOut X hx hret (by cases t <;> first | rfl | (cases ht)) (Or.inr (Or.inr (Or.inr (Or.inr ⟨rfl, ht, hv⟩)))) hd hr) (by rw [eT]; exact hQ) hK hN
theorem own_retN {t : FieldType} (ht : t = .boolean ∨ t = .byte ∨ t = .char ∨ t = .short) (X : Stand p l e R s m args below meth c T locs cells slots) (hx : p.tables.exec = Jvm.exec) {pc : Nat} {Ls : Array Slot} {z : Int32} {rest : List Value} (hret : meth.sig.returnType = some t) (hlocks : meth.locks = false) (hd : decode c.code pc = .ok (.ireturn, 1))
    {h : Heap} (eT : T.heap = h) (hQ : Q (some (.int (nar t z))) h locs) (hK : cells ≤ K) (hN : slots ≤ N) : own_G p e below s Q K N (T.setTop (mkF m pc Ls (.int z :: rest))) :=
  own_end X (fun h => by rw [hret] at h; cases h) hlocks (fun fs hr => retN X hx hret ht hd hr) (by rw [eT]; exact hQ) hK hN
theorem own_ret0 (X : Stand p l e R s m args below meth c T locs cells slots) (hx : p.tables.exec = Jvm.exec) {pc : Nat} {Ls : Array Slot} (hret : meth.sig.returnType = none) (hlocks : meth.locks = false) (hd : decode c.code pc = .ok (.return_, 1))
    {h : Heap} (eT : T.heap = h) (hQ : Q none h locs) (hK : cells ≤ K) (hN : slots ≤ N) : own_G p e below s Q K N (T.setTop (mkF m pc Ls [])) :=
  own_end X (fun _ => rfl) hlocks (fun fs hr => X.returnOut hx hret hd hr) (by rw [eT]; exact hQ) hK hN
theorem own_lrem (X : Stand p l e R s m args below meth c T locs cells slots) (hx : p.tables.exec = Jvm.exec) {g : JFrame} {target : State} (hg : g.method = m) {x y : Int64} {rest : List Value} (hd : decode c.code g.pc = .ok (.lrem, 1)) (hs : g.stack = .long y :: .long x :: rest) (hy : y ≠ 0)
    (hr : Steps p.tables e below (T.setTop { g with pc := g.pc + 1, stack := .long (x % y) :: rest }) target) : Steps p.tables e below (T.setTop g) target :=
  XS.lrem X.here hx hg hd hs hy (by rw [lrem_mod]; exact hr)
theorem own_ic_ltY (X : Stand p l e R s m args below meth c T locs cells slots) (hx : p.tables.exec = Jvm.exec) {pc pc' : Nat} {Ls : Array Slot} {rest : List Value} {o : Int} {x y : Int32} (hd : decode c.code pc = .ok (.if_icmp .lt o, 3)) (ho : 0 ≤ (pc : Int) + o) (hp : ((pc : Int) + o).toNat = pc') (h : x < y) (k : own_G p e below s Q K N (T.setTop (mkF m pc' Ls rest))) : own_G p e below s Q K N (T.setTop (mkF m pc Ls (.int y :: .int x :: rest))) :=
  own_go (fun _ k => XS.icmpYes X.here hx rfl (pc0 := pc) (pc' := pc') rfl hd rfl (tlt h).1 ho hp k) k
theorem own_ic_ltN (X : Stand p l e R s m args below meth c T locs cells slots) (hx : p.tables.exec = Jvm.exec) {pc : Nat} {Ls : Array Slot} {rest : List Value} {o : Int} {x y : Int32} (hd : decode c.code pc = .ok (.if_icmp .lt o, 3)) (h : ¬ (x < y)) (k : own_G p e below s Q K N (T.setTop (mkF m (pc + 3) Ls rest))) : own_G p e below s Q K N (T.setTop (mkF m pc Ls (.int y :: .int x :: rest))) :=
  own_go (fun _ k => XS.icmpNo X.here hx rfl hd rfl (flt h).1 k) k
theorem own_ic_lt (X : Stand p l e R s m args below meth c T locs cells slots) (hx : p.tables.exec = Jvm.exec) {pc pc' : Nat} {Ls : Array Slot} {rest : List Value} {o : Int} {x y : Int32} (hd : decode c.code pc = .ok (.if_icmp .lt o, 3)) (ho : 0 ≤ (pc : Int) + o) (hp : ((pc : Int) + o).toNat = pc') (ky : x < y → own_G p e below s Q K N (T.setTop (mkF m pc' Ls rest))) (kn : ¬ (x < y) → own_G p e below s Q K N (T.setTop (mkF m (pc + 3) Ls rest))) : own_G p e below s Q K N (T.setTop (mkF m pc Ls (.int y :: .int x :: rest))) := by
  by_cases h : x < y
  · exact own_ic_ltY X hx hd ho hp h (ky h)
  · exact own_ic_ltN X hx hd h (kn h)
theorem own_if_ltY (X : Stand p l e R s m args below meth c T locs cells slots) (hx : p.tables.exec = Jvm.exec) {pc pc' : Nat} {Ls : Array Slot} {rest : List Value} {o : Int} {x : Int32} (hd : decode c.code pc = .ok (.ifCond .lt o, 3)) (ho : 0 ≤ (pc : Int) + o) (hp : ((pc : Int) + o).toNat = pc') (h : x < 0) (k : own_G p e below s Q K N (T.setTop (mkF m pc' Ls rest))) : own_G p e below s Q K N (T.setTop (mkF m pc Ls (.int x :: rest))) :=
  own_go (fun _ k => XS.ifYes X.here hx rfl (pc0 := pc) (pc' := pc') rfl hd rfl ((if0 _ _).trans (tlt h).1) ho hp k) k
theorem own_if_ltN (X : Stand p l e R s m args below meth c T locs cells slots) (hx : p.tables.exec = Jvm.exec) {pc : Nat} {Ls : Array Slot} {rest : List Value} {o : Int} {x : Int32} (hd : decode c.code pc = .ok (.ifCond .lt o, 3)) (h : ¬ (x < 0)) (k : own_G p e below s Q K N (T.setTop (mkF m (pc + 3) Ls rest))) : own_G p e below s Q K N (T.setTop (mkF m pc Ls (.int x :: rest))) :=
  own_go (fun _ k => XS.ifNo X.here hx rfl hd rfl ((if0 _ _).trans (flt h).1) k) k
theorem own_if_lt (X : Stand p l e R s m args below meth c T locs cells slots) (hx : p.tables.exec = Jvm.exec) {pc pc' : Nat} {Ls : Array Slot} {rest : List Value} {o : Int} {x : Int32} (hd : decode c.code pc = .ok (.ifCond .lt o, 3)) (ho : 0 ≤ (pc : Int) + o) (hp : ((pc : Int) + o).toNat = pc') (ky : x < 0 → own_G p e below s Q K N (T.setTop (mkF m pc' Ls rest))) (kn : ¬ (x < 0) → own_G p e below s Q K N (T.setTop (mkF m (pc + 3) Ls rest))) : own_G p e below s Q K N (T.setTop (mkF m pc Ls (.int x :: rest))) := by
  by_cases h : x < 0
  · exact own_if_ltY X hx hd ho hp h (ky h)
  · exact own_if_ltN X hx hd h (kn h)
theorem own_ic_geY (X : Stand p l e R s m args below meth c T locs cells slots) (hx : p.tables.exec = Jvm.exec) {pc pc' : Nat} {Ls : Array Slot} {rest : List Value} {o : Int} {x y : Int32} (hd : decode c.code pc = .ok (.if_icmp .ge o, 3)) (ho : 0 ≤ (pc : Int) + o) (hp : ((pc : Int) + o).toNat = pc') (h : ¬ (x < y)) (k : own_G p e below s Q K N (T.setTop (mkF m pc' Ls rest))) : own_G p e below s Q K N (T.setTop (mkF m pc Ls (.int y :: .int x :: rest))) :=
  own_go (fun _ k => XS.icmpYes X.here hx rfl (pc0 := pc) (pc' := pc') rfl hd rfl (flt h).2.1 ho hp k) k
theorem own_ic_geN (X : Stand p l e R s m args below meth c T locs cells slots) (hx : p.tables.exec = Jvm.exec) {pc : Nat} {Ls : Array Slot} {rest : List Value} {o : Int} {x y : Int32} (hd : decode c.code pc = .ok (.if_icmp .ge o, 3)) (h : x < y) (k : own_G p e below s Q K N (T.setTop (mkF m (pc + 3) Ls rest))) : own_G p e below s Q K N (T.setTop (mkF m pc Ls (.int y :: .int x :: rest))) :=
  own_go (fun _ k => XS.icmpNo X.here hx rfl hd rfl (tlt h).2.1 k) k
theorem own_ic_ge (X : Stand p l e R s m args below meth c T locs cells slots) (hx : p.tables.exec = Jvm.exec) {pc pc' : Nat} {Ls : Array Slot} {rest : List Value} {o : Int} {x y : Int32} (hd : decode c.code pc = .ok (.if_icmp .ge o, 3)) (ho : 0 ≤ (pc : Int) + o) (hp : ((pc : Int) + o).toNat = pc') (ky : ¬ (x < y) → own_G p e below s Q K N (T.setTop (mkF m pc' Ls rest))) (kn : x < y → own_G p e below s Q K N (T.setTop (mkF m (pc + 3) Ls rest))) : own_G p e below s Q K N (T.setTop (mkF m pc Ls (.int y :: .int x :: rest))) := by
  by_cases h : x < y
  · exact own_ic_geN X hx hd h (kn h)
  · exact own_ic_geY X hx hd ho hp h (ky h)
theorem own_if_geY (X : Stand p l e R s m args below meth c T locs cells slots) (hx : p.tables.exec = Jvm.exec) {pc pc' : Nat} {Ls : Array Slot} {rest : List Value} {o : Int} {x : Int32} (hd : decode c.code pc = .ok (.ifCond .ge o, 3)) (ho : 0 ≤ (pc : Int) + o) (hp : ((pc : Int) + o).toNat = pc') (h : ¬ (x < 0)) (k : own_G p e below s Q K N (T.setTop (mkF m pc' Ls rest))) : own_G p e below s Q K N (T.setTop (mkF m pc Ls (.int x :: rest))) :=
  own_go (fun _ k => XS.ifYes X.here hx rfl (pc0 := pc) (pc' := pc') rfl hd rfl ((if0 _ _).trans (flt h).2.1) ho hp k) k
theorem own_if_geN (X : Stand p l e R s m args below meth c T locs cells slots) (hx : p.tables.exec = Jvm.exec) {pc : Nat} {Ls : Array Slot} {rest : List Value} {o : Int} {x : Int32} (hd : decode c.code pc = .ok (.ifCond .ge o, 3)) (h : x < 0) (k : own_G p e below s Q K N (T.setTop (mkF m (pc + 3) Ls rest))) : own_G p e below s Q K N (T.setTop (mkF m pc Ls (.int x :: rest))) :=
  own_go (fun _ k => XS.ifNo X.here hx rfl hd rfl ((if0 _ _).trans (tlt h).2.1) k) k
theorem own_if_ge (X : Stand p l e R s m args below meth c T locs cells slots) (hx : p.tables.exec = Jvm.exec) {pc pc' : Nat} {Ls : Array Slot} {rest : List Value} {o : Int} {x : Int32} (hd : decode c.code pc = .ok (.ifCond .ge o, 3)) (ho : 0 ≤ (pc : Int) + o) (hp : ((pc : Int) + o).toNat = pc') (ky : ¬ (x < 0) → own_G p e below s Q K N (T.setTop (mkF m pc' Ls rest))) (kn : x < 0 → own_G p e below s Q K N (T.setTop (mkF m (pc + 3) Ls rest))) : own_G p e below s Q K N (T.setTop (mkF m pc Ls (.int x :: rest))) := by
  by_cases h : x < 0
  · exact own_if_geN X hx hd h (kn h)
  · exact own_if_geY X hx hd ho hp h (ky h)
theorem own_ic_gtY (X : Stand p l e R s m args below meth c T locs cells slots) (hx : p.tables.exec = Jvm.exec) {pc pc' : Nat} {Ls : Array Slot} {rest : List Value} {o : Int} {x y : Int32} (hd : decode c.code pc = .ok (.if_icmp .gt o, 3)) (ho : 0 ≤ (pc : Int) + o) (hp : ((pc : Int) + o).toNat = pc') (h : y < x) (k : own_G p e below s Q K N (T.setTop (mkF m pc' Ls rest))) : own_G p e below s Q K N (T.setTop (mkF m pc Ls (.int y :: .int x :: rest))) :=
  own_go (fun _ k => XS.icmpYes X.here hx rfl (pc0 := pc) (pc' := pc') rfl hd rfl (tlt h).2.2.1 ho hp k) k
theorem own_ic_gtN (X : Stand p l e R s m args below meth c T locs cells slots) (hx : p.tables.exec = Jvm.exec) {pc : Nat} {Ls : Array Slot} {rest : List Value} {o : Int} {x y : Int32} (hd : decode c.code pc = .ok (.if_icmp .gt o, 3)) (h : ¬ (y < x)) (k : own_G p e below s Q K N (T.setTop (mkF m (pc + 3) Ls rest))) : own_G p e below s Q K N (T.setTop (mkF m pc Ls (.int y :: .int x :: rest))) :=
  own_go (fun _ k => XS.icmpNo X.here hx rfl hd rfl (flt h).2.2.1 k) k
theorem own_ic_gt (X : Stand p l e R s m args below meth c T locs cells slots) (hx : p.tables.exec = Jvm.exec) {pc pc' : Nat} {Ls : Array Slot} {rest : List Value} {o : Int} {x y : Int32} (hd : decode c.code pc = .ok (.if_icmp .gt o, 3)) (ho : 0 ≤ (pc : Int) + o) (hp : ((pc : Int) + o).toNat = pc') (ky : y < x → own_G p e below s Q K N (T.setTop (mkF m pc' Ls rest))) (kn : ¬ (y < x) → own_G p e below s Q K N (T.setTop (mkF m (pc + 3) Ls rest))) : own_G p e below s Q K N (T.setTop (mkF m pc Ls (.int y :: .int x :: rest))) := by
  by_cases h : y < x
  · exact own_ic_gtY X hx hd ho hp h (ky h)
  · exact own_ic_gtN X hx hd h (kn h)
theorem own_if_gtY (X : Stand p l e R s m args below meth c T locs cells slots) (hx : p.tables.exec = Jvm.exec) {pc pc' : Nat} {Ls : Array Slot} {rest : List Value} {o : Int} {x : Int32} (hd : decode c.code pc = .ok (.ifCond .gt o, 3)) (ho : 0 ≤ (pc : Int) + o) (hp : ((pc : Int) + o).toNat = pc') (h : 0 < x) (k : own_G p e below s Q K N (T.setTop (mkF m pc' Ls rest))) : own_G p e below s Q K N (T.setTop (mkF m pc Ls (.int x :: rest))) :=
  own_go (fun _ k => XS.ifYes X.here hx rfl (pc0 := pc) (pc' := pc') rfl hd rfl ((if0 _ _).trans (tlt h).2.2.1) ho hp k) k
theorem own_if_gtN (X : Stand p l e R s m args below meth c T locs cells slots) (hx : p.tables.exec = Jvm.exec) {pc : Nat} {Ls : Array Slot} {rest : List Value} {o : Int} {x : Int32} (hd : decode c.code pc = .ok (.ifCond .gt o, 3)) (h : ¬ (0 < x)) (k : own_G p e below s Q K N (T.setTop (mkF m (pc + 3) Ls rest))) : own_G p e below s Q K N (T.setTop (mkF m pc Ls (.int x :: rest))) :=
  own_go (fun _ k => XS.ifNo X.here hx rfl hd rfl ((if0 _ _).trans (flt h).2.2.1) k) k
theorem own_if_gt (X : Stand p l e R s m args below meth c T locs cells slots) (hx : p.tables.exec = Jvm.exec) {pc pc' : Nat} {Ls : Array Slot} {rest : List Value} {o : Int} {x : Int32} (hd : decode c.code pc = .ok (.ifCond .gt o, 3)) (ho : 0 ≤ (pc : Int) + o) (hp : ((pc : Int) + o).toNat = pc') (ky : 0 < x → own_G p e below s Q K N (T.setTop (mkF m pc' Ls rest))) (kn : ¬ (0 < x) → own_G p e below s Q K N (T.setTop (mkF m (pc + 3) Ls rest))) : own_G p e below s Q K N (T.setTop (mkF m pc Ls (.int x :: rest))) := by
  by_cases h : 0 < x
  · exact own_if_gtY X hx hd ho hp h (ky h)
  · exact own_if_gtN X hx hd h (kn h)
theorem own_ic_leY (X : Stand p l e R s m args below meth c T locs cells slots) (hx : p.tables.exec = Jvm.exec) {pc pc' : Nat} {Ls : Array Slot} {rest : List Value} {o : Int} {x y : Int32} (hd : decode c.code pc = .ok (.if_icmp .le o, 3)) (ho : 0 ≤ (pc : Int) + o) (hp : ((pc : Int) + o).toNat = pc') (h : ¬ (y < x)) (k : own_G p e below s Q K N (T.setTop (mkF m pc' Ls rest))) : own_G p e below s Q K N (T.setTop (mkF m pc Ls (.int y :: .int x :: rest))) :=
  own_go (fun _ k => XS.icmpYes X.here hx rfl (pc0 := pc) (pc' := pc') rfl hd rfl (flt h).2.2.2 ho hp k) k
theorem own_ic_leN (X : Stand p l e R s m args below meth c T locs cells slots) (hx : p.tables.exec = Jvm.exec) {pc : Nat} {Ls : Array Slot} {rest : List Value} {o : Int} {x y : Int32} (hd : decode c.code pc = .ok (.if_icmp .le o, 3)) (h : y < x) (k : own_G p e below s Q K N (T.setTop (mkF m (pc + 3) Ls rest))) : own_G p e below s Q K N (T.setTop (mkF m pc Ls (.int y :: .int x :: rest))) :=
  own_go (fun _ k => XS.icmpNo X.here hx rfl hd rfl (tlt h).2.2.2 k) k
theorem own_ic_le (X : Stand p l e R s m args below meth c T locs cells slots) (hx : p.tables.exec = Jvm.exec) {pc pc' : Nat} {Ls : Array Slot} {rest : List Value} {o : Int} {x y : Int32} (hd : decode c.code pc = .ok (.if_icmp .le o, 3)) (ho : 0 ≤ (pc : Int) + o) (hp : ((pc : Int) + o).toNat = pc') (ky : ¬ (y < x) → own_G p e below s Q K N (T.setTop (mkF m pc' Ls rest))) (kn : y < x → own_G p e below s Q K N (T.setTop (mkF m (pc + 3) Ls rest))) : own_G p e below s Q K N (T.setTop (mkF m pc Ls (.int y :: .int x :: rest))) := by
  by_cases h : y < x
  · exact own_ic_leN X hx hd h (kn h)
  · exact own_ic_leY X hx hd ho hp h (ky h)
theorem own_if_leY (X : Stand p l e R s m args below meth c T locs cells slots) (hx : p.tables.exec = Jvm.exec) {pc pc' : Nat} {Ls : Array Slot} {rest : List Value} {o : Int} {x : Int32} (hd : decode c.code pc = .ok (.ifCond .le o, 3)) (ho : 0 ≤ (pc : Int) + o) (hp : ((pc : Int) + o).toNat = pc') (h : ¬ (0 < x)) (k : own_G p e below s Q K N (T.setTop (mkF m pc' Ls rest))) : own_G p e below s Q K N (T.setTop (mkF m pc Ls (.int x :: rest))) :=
  own_go (fun _ k => XS.ifYes X.here hx rfl (pc0 := pc) (pc' := pc') rfl hd rfl ((if0 _ _).trans (flt h).2.2.2) ho hp k) k
theorem own_if_leN (X : Stand p l e R s m args below meth c T locs cells slots) (hx : p.tables.exec = Jvm.exec) {pc : Nat} {Ls : Array Slot} {rest : List Value} {o : Int} {x : Int32} (hd : decode c.code pc = .ok (.ifCond .le o, 3)) (h : 0 < x) (k : own_G p e below s Q K N (T.setTop (mkF m (pc + 3) Ls rest))) : own_G p e below s Q K N (T.setTop (mkF m pc Ls (.int x :: rest))) :=
  own_go (fun _ k => XS.ifNo X.here hx rfl hd rfl ((if0 _ _).trans (tlt h).2.2.2) k) k
theorem own_if_le (X : Stand p l e R s m args below meth c T locs cells slots) (hx : p.tables.exec = Jvm.exec) {pc pc' : Nat} {Ls : Array Slot} {rest : List Value} {o : Int} {x : Int32} (hd : decode c.code pc = .ok (.ifCond .le o, 3)) (ho : 0 ≤ (pc : Int) + o) (hp : ((pc : Int) + o).toNat = pc') (ky : ¬ (0 < x) → own_G p e below s Q K N (T.setTop (mkF m pc' Ls rest))) (kn : 0 < x → own_G p e below s Q K N (T.setTop (mkF m (pc + 3) Ls rest))) : own_G p e below s Q K N (T.setTop (mkF m pc Ls (.int x :: rest))) := by
  by_cases h : 0 < x
  · exact own_if_leN X hx hd h (kn h)
  · exact own_if_leY X hx hd ho hp h (ky h)
theorem own_ic_eqY (X : Stand p l e R s m args below meth c T locs cells slots) (hx : p.tables.exec = Jvm.exec) {pc pc' : Nat} {Ls : Array Slot} {rest : List Value} {o : Int} {x y : Int32} (hd : decode c.code pc = .ok (.if_icmp .eq o, 3)) (ho : 0 ≤ (pc : Int) + o) (hp : ((pc : Int) + o).toNat = pc') (h : x = y) (k : own_G p e below s Q K N (T.setTop (mkF m pc' Ls rest))) : own_G p e below s Q K N (T.setTop (mkF m pc Ls (.int y :: .int x :: rest))) :=
  own_go (fun _ k => XS.icmpYes X.here hx rfl (pc0 := pc) (pc' := pc') rfl hd rfl (teq h).1 ho hp k) k
theorem own_ic_eqN (X : Stand p l e R s m args below meth c T locs cells slots) (hx : p.tables.exec = Jvm.exec) {pc : Nat} {Ls : Array Slot} {rest : List Value} {o : Int} {x y : Int32} (hd : decode c.code pc = .ok (.if_icmp .eq o, 3)) (h : ¬ (x = y)) (k : own_G p e below s Q K N (T.setTop (mkF m (pc + 3) Ls rest))) : own_G p e below s Q K N (T.setTop (mkF m pc Ls (.int y :: .int x :: rest))) :=
  own_go (fun _ k => XS.icmpNo X.here hx rfl hd rfl (feq h).1 k) k
theorem own_ic_eq (X : Stand p l e R s m args below meth c T locs cells slots) (hx : p.tables.exec = Jvm.exec) {pc pc' : Nat} {Ls : Array Slot} {rest : List Value} {o : Int} {x y : Int32} (hd : decode c.code pc = .ok (.if_icmp .eq o, 3)) (ho : 0 ≤ (pc : Int) + o) (hp : ((pc : Int) + o).toNat = pc') (ky : x = y → own_G p e below s Q K N (T.setTop (mkF m pc' Ls rest))) (kn : ¬ (x = y) → own_G p e below s Q K N (T.setTop (mkF m (pc + 3) Ls rest))) : own_G p e below s Q K N (T.setTop (mkF m pc Ls (.int y :: .int x :: rest))) := by
  by_cases h : x = y
  · exact own_ic_eqY X hx hd ho hp h (ky h)
  · exact own_ic_eqN X hx hd h (kn h)
theorem own_if_eqY (X : Stand p l e R s m args below meth c T locs cells slots) (hx : p.tables.exec = Jvm.exec) {pc pc' : Nat} {Ls : Array Slot} {rest : List Value} {o : Int} {x : Int32} (hd : decode c.code pc = .ok (.ifCond .eq o, 3)) (ho : 0 ≤ (pc : Int) + o) (hp : ((pc : Int) + o).toNat = pc') (h : x = 0) (k : own_G p e below s Q K N (T.setTop (mkF m pc' Ls rest))) : own_G p e below s Q K N (T.setTop (mkF m pc Ls (.int x :: rest))) :=
  own_go (fun _ k => XS.ifYes X.here hx rfl (pc0 := pc) (pc' := pc') rfl hd rfl ((if0 _ _).trans (teq h).1) ho hp k) k
theorem own_if_eqN (X : Stand p l e R s m args below meth c T locs cells slots) (hx : p.tables.exec = Jvm.exec) {pc : Nat} {Ls : Array Slot} {rest : List Value} {o : Int} {x : Int32} (hd : decode c.code pc = .ok (.ifCond .eq o, 3)) (h : ¬ (x = 0)) (k : own_G p e below s Q K N (T.setTop (mkF m (pc + 3) Ls rest))) : own_G p e below s Q K N (T.setTop (mkF m pc Ls (.int x :: rest))) :=
  own_go (fun _ k => XS.ifNo X.here hx rfl hd rfl ((if0 _ _).trans (feq h).1) k) k
theorem own_if_eq (X : Stand p l e R s m args below meth c T locs cells slots) (hx : p.tables.exec = Jvm.exec) {pc pc' : Nat} {Ls : Array Slot} {rest : List Value} {o : Int} {x : Int32} (hd : decode c.code pc = .ok (.ifCond .eq o, 3)) (ho : 0 ≤ (pc : Int) + o) (hp : ((pc : Int) + o).toNat = pc') (ky : x = 0 → own_G p e below s Q K N (T.setTop (mkF m pc' Ls rest))) (kn : ¬ (x = 0) → own_G p e below s Q K N (T.setTop (mkF m (pc + 3) Ls rest))) : own_G p e below s Q K N (T.setTop (mkF m pc Ls (.int x :: rest))) := by
  by_cases h : x = 0
  · exact own_if_eqY X hx hd ho hp h (ky h)
  · exact own_if_eqN X hx hd h (kn h)
theorem own_ic_neY (X : Stand p l e R s m args below meth c T locs cells slots) (hx : p.tables.exec = Jvm.exec) {pc pc' : Nat} {Ls : Array Slot} {rest : List Value} {o : Int} {x y : Int32} (hd : decode c.code pc = .ok (.if_icmp .ne o, 3)) (ho : 0 ≤ (pc : Int) + o) (hp : ((pc : Int) + o).toNat = pc') (h : ¬ (x = y)) (k : own_G p e below s Q K N (T.setTop (mkF m pc' Ls rest))) : own_G p e below s Q K N (T.setTop (mkF m pc Ls (.int y :: .int x :: rest))) :=
  own_go (fun _ k => XS.icmpYes X.here hx rfl (pc0 := pc) (pc' := pc') rfl hd rfl (feq h).2 ho hp k) k
theorem own_ic_neN (X : Stand p l e R s m args below meth c T locs cells slots) (hx : p.tables.exec = Jvm.exec) {pc : Nat} {Ls : Array Slot} {rest : List Value} {o : Int} {x y : Int32} (hd : decode c.code pc = .ok (.if_icmp .ne o, 3)) (h : x = y) (k : own_G p e below s Q K N (T.setTop (mkF m (pc + 3) Ls rest))) : own_G p e below s Q K N (T.setTop (mkF m pc Ls (.int y :: .int x :: rest))) :=
  own_go (fun _ k => XS.icmpNo X.here hx rfl hd rfl (teq h).2 k) k
theorem own_ic_ne (X : Stand p l e R s m args below meth c T locs cells slots) (hx : p.tables.exec = Jvm.exec) {pc pc' : Nat} {Ls : Array Slot} {rest : List Value} {o : Int} {x y : Int32} (hd : decode c.code pc = .ok (.if_icmp .ne o, 3)) (ho : 0 ≤ (pc : Int) + o) (hp : ((pc : Int) + o).toNat = pc') (ky : ¬ (x = y) → own_G p e below s Q K N (T.setTop (mkF m pc' Ls rest))) (kn : x = y → own_G p e below s Q K N (T.setTop (mkF m (pc + 3) Ls rest))) : own_G p e below s Q K N (T.setTop (mkF m pc Ls (.int y :: .int x :: rest))) := by
  by_cases h : x = y
  · exact own_ic_neN X hx hd h (kn h)
  · exact own_ic_neY X hx hd ho hp h (ky h)
theorem own_if_neY (X : Stand p l e R s m args below meth c T locs cells slots) (hx : p.tables.exec = Jvm.exec) {pc pc' : Nat} {Ls : Array Slot} {rest : List Value} {o : Int} {x : Int32} (hd : decode c.code pc = .ok (.ifCond .ne o, 3)) (ho : 0 ≤ (pc : Int) + o) (hp : ((pc : Int) + o).toNat = pc') (h : ¬ (x = 0)) (k : own_G p e below s Q K N (T.setTop (mkF m pc' Ls rest))) : own_G p e below s Q K N (T.setTop (mkF m pc Ls (.int x :: rest))) :=
  own_go (fun _ k => XS.ifYes X.here hx rfl (pc0 := pc) (pc' := pc') rfl hd rfl ((if0 _ _).trans (feq h).2) ho hp k) k
theorem own_if_neN (X : Stand p l e R s m args below meth c T locs cells slots) (hx : p.tables.exec = Jvm.exec) {pc : Nat} {Ls : Array Slot} {rest : List Value} {o : Int} {x : Int32} (hd : decode c.code pc = .ok (.ifCond .ne o, 3)) (h : x = 0) (k : own_G p e below s Q K N (T.setTop (mkF m (pc + 3) Ls rest))) : own_G p e below s Q K N (T.setTop (mkF m pc Ls (.int x :: rest))) :=
  own_go (fun _ k => XS.ifNo X.here hx rfl hd rfl ((if0 _ _).trans (teq h).2) k) k
theorem own_if_ne (X : Stand p l e R s m args below meth c T locs cells slots) (hx : p.tables.exec = Jvm.exec) {pc pc' : Nat} {Ls : Array Slot} {rest : List Value} {o : Int} {x : Int32} (hd : decode c.code pc = .ok (.ifCond .ne o, 3)) (ho : 0 ≤ (pc : Int) + o) (hp : ((pc : Int) + o).toNat = pc') (ky : ¬ (x = 0) → own_G p e below s Q K N (T.setTop (mkF m pc' Ls rest))) (kn : x = 0 → own_G p e below s Q K N (T.setTop (mkF m (pc + 3) Ls rest))) : own_G p e below s Q K N (T.setTop (mkF m pc Ls (.int x :: rest))) := by
  by_cases h : x = 0
  · exact own_if_neN X hx hd h (kn h)
  · exact own_if_neY X hx hd ho hp h (ky h)
theorem own_nar1 : nar .boolean (1 : Int32) = 1 := rfl
theorem own_nar0 : nar .boolean (0 : Int32) = 0 := rfl
theorem own_mask (x : Int32) (k : Nat) (hk : k < 2147483648) : ∃ n : Nat, n ≤ k ∧ (x &&& Int32.ofNat k) = Int32.ofNat n := by
  refine ⟨(x &&& Int32.ofNat k).toBitVec.toNat, ?_, ?_⟩
  · have h : (Int32.ofNat k).toBitVec.toNat = k := by
      show (BitVec.ofNat 32 k).toNat = k
      rw [BitVec.toNat_ofNat]; omega
    simp only [Int32.toBitVec_and, BitVec.toNat_and, h]
    exact Nat.and_le_right
  · apply Int32.toBitVec_inj.mp
    show _ = BitVec.ofNat 32 _
    rw [BitVec.ofNat_toNat]; simp
end OwnKit
def own_bl (f : Nat → Int32) : Nat → Nat → Int32
  | 0, _ => 1
  | k + 1, i => if 32 < f i then 0 else own_bl f k (i + 1)
theorem own_bl_hit (f : Nat → Int32) (j : Nat) (hj : 32 < f j) : ∀ k i, i ≤ j → j < i + k → own_bl f k i = 0 := by
  intro k
  induction k with
  | zero => intro i h1 h2; omega
  | succ k ih =>
    intro i h1 h2
    rw [own_bl]
    by_cases h : 32 < f i
    · rw [if_pos h]
    · rw [if_neg h]
      have : i ≠ j := fun q => h (q ▸ hj)
      exact ih (i + 1) (by omega) (by omega)
theorem own_bl_none (f : Nat → Int32) : ∀ k i, (∀ j, i ≤ j → j < i + k → ¬ 32 < f j) → own_bl f k i = 1 := by
  intro k
  induction k with
  | zero => intro i h; rfl
  | succ k ih =>
    intro i h
    rw [own_bl, if_neg (h i (by omega) (by omega))]
    exact ih (i + 1) fun j h1 h2 => h j (by omega) (by omega)
theorem own_ofn {i : Nat} (h : i < 100) : (Int32.ofNat i).toInt = i := Int32.toInt_ofNat_of_lt (by omega)
theorem own_lt {i j : Nat} (hi : i < 100) (hj : j < 100) : Int32.ofNat i < Int32.ofNat j ↔ i < j := by
  rw [Int32.lt_iff_toInt_lt, own_ofn hi, own_ofn hj]; omega
theorem own_in {i : Nat} (h : i < 4) : ¬ Int32.ofNat i < 0 ∧ Int32.ofNat i < 4 := by
  match i, h with
  | 0, _ => decide
  | 1, _ => decide
  | 2, _ => decide
  | 3, _ => decide
theorem own_n {i : Nat} (h : i < 4) : (Int32.ofNat i).toNatClampNeg = i := by
  match i, h with
  | 0, _ => decide
  | 1, _ => decide
  | 2, _ => decide
  | 3, _ => decide
theorem own_succ (i : Nat) : Int32.ofNat i + (1 : Int32) = Int32.ofNat (i + 1) := (Int32.ofNat_add i 1).symm
def own_f (u0 u1 u2 u3 : Int32) : Nat → Int32
  | 0 => u0
  | 1 => u1
  | 2 => u2
  | _ => u3
theorem own_fat (u0 u1 u2 u3 : Int32) : ∀ j, j < 4 → [Value.int u0, Value.int u1, Value.int u2, Value.int u3].getD j (Value.int 0) = Value.int (own_f u0 u1 u2 u3 j)
  | 0, _ => rfl
  | 1, _ => rfl
  | 2, _ => rfl
  | 3, _ => rfl
theorem own_y {A : Prop} [Decidable A] (h : ¬ (if A then (1 : Int32) else 0) = 0) : A := Decidable.byContradiction fun q => h (if_neg q)
theorem own_nn {A : Prop} [Decidable A] (h : (if A then (1 : Int32) else 0) = 0) : ¬ A := fun q => by rw [if_pos q] at h; exact absurd h (by decide)
theorem own_small {y : Int32} {d : Nat} (h0 : 0 ≤ y.toInt) (h1 : y.toInt < d) (hd : d ≤ 2147483648) : ∃ k, k < d ∧ y = Int32.ofNat k :=
  ⟨y.toInt.toNat, by omega, by
    apply Int32.toInt_inj.mp
    rw [Int32.toInt_ofNat_of_lt (by omega)]
    omega⟩
theorem own_rem (x : Int32) : ∃ k, k < 5 ∧ (x &&& (7 : Int32)) % (5 : Int32) = Int32.ofNat k := by
  have e1 := c_mask x 7 3 (by decide) (by decide)
  have h0 : 0 ≤ (x &&& (7 : Int32)).toInt := by rw [e1]; exact Int.emod_nonneg _ (by decide)
  have e2 := (c_irem (x &&& 7) 5 5 (by decide)).1 h0
  refine own_small ?_ ?_ (by omega)
  · rw [e2]; exact Int.emod_nonneg _ (by decide)
  · rw [e2]; exact Int.emod_lt_of_pos _ (by decide)
theorem own_hit (f : Nat → Int32) {S E j : Nat} (hS : S < 5) (hE : E < 5) (hj : j < 4) (h : ¬ (Int32.ofNat j < Int32.ofNat S) ∧ Int32.ofNat j < Int32.ofNat E ∧ 32 < f j) : own_bl f (E - S) S = 0 := by
  obtain ⟨h1, h2, h3⟩ := h
  rw [own_lt (by omega) (by omega)] at h1 h2
  exact own_bl_hit f j h3 _ _ (by omega) (by omega)
theorem own_non (f : Nat → Int32) {S E : Nat} (hS : S < 5) (hE : E < 5) (h : ∀ j, j < 4 → ¬ (¬ (Int32.ofNat j < Int32.ofNat S) ∧ Int32.ofNat j < Int32.ofNat E ∧ 32 < f j)) : own_bl f (E - S) S = 1 :=
  own_bl_none f _ _ fun j h1 h2 h3 => h j (by omega) ⟨by rw [own_lt (by omega) (by omega)]; omega, by rw [own_lt (by omega) (by omega)]; omega, h3⟩
theorem d1_0 : decode method_2_code 0 = .ok (.iload_n 0, 1) := by decide +kernel
theorem d1_1 : decode method_2_code 1 = .ok (.ldc 7, 2) := by decide +kernel
theorem d1_3 : decode method_2_code 3 = .ok (.iand, 1) := by decide +kernel
theorem d1_4 : decode method_2_code 4 = .ok (.ifCond .eq 10, 3) := by decide +kernel
theorem d1_7 : decode method_2_code 7 = .ok (.iload_n 0, 1) := by decide +kernel
theorem d1_8 : decode method_2_code 8 = .ok (.bipush 63, 2) := by decide +kernel
theorem d1_10 : decode method_2_code 10 = .ok (.iand, 1) := by decide +kernel
theorem d1_11 : decode method_2_code 11 = .ok (.goto 7, 3) := by decide +kernel
theorem d1_14 : decode method_2_code 14 = .ok (.iload_n 0, 1) := by decide +kernel
theorem d1_15 : decode method_2_code 15 = .ok (.ldc 8, 2) := by decide +kernel
theorem d1_17 : decode method_2_code 17 = .ok (.iand, 1) := by decide +kernel
theorem d1_18 : decode method_2_code 18 = .ok (.i2c, 1) := by decide +kernel
theorem d1_19 : decode method_2_code 19 = .ok (.ireturn, 1) := by decide +kernel
theorem pn_0 : plainName "com/example/accordant/accordant/document/WhiteSpaceIsBlankPinLaw" = true := by first | (simp [plainName, overriddenIn]; done) | decide +kernel
theorem ef_rmD (m : MethodId) (x0 : Int32) : entryFrame m #[(.int x0)] 1 = mkF m 0 #[.val (.int x0)] [] := by first | (simp [entryFrame, mkF, argsToLocals, Value.category]; done) | rfl
def Q_rmD (Z : State) (x0 : Int32) (h0 : Heap) (n0 : Nat) : Option Value → Heap → List Loc → Prop := fun v h L => ∃ cc : Int32, v = some (.int cc) ∧ Fr n0 L ∧ h = h0
set_option maxRecDepth 65536 in
set_option maxHeartbeats 40000000 in
theorem rmD (l : Launch) (Z : State) (a0 : Array Value) (hw : ∀ d ∈ tables_1, d.before a0 Z = true) (ws : List Jvm.Cond) (x0 : Int32) (h0 : Heap) (n0 : Nat) (Z0 : n0 ≤ h0.size)  :
    MetFree l (⟨"com/example/accordant/accordant/document/WhiteSpaceIsBlankPinLaw", "draw", "(I)C"⟩ : MethodName) (head1 (Jvm.Cond.code (⟨"com/example/accordant/accordant/document/WhiteSpaceIsBlankPinLaw", "draw", "(I)C"⟩ : MethodName) method_2_code 1 (some .char) :: ws) ({ frames := 0, cells := 0, slots := 0, locals := 0 } : Room)) (fun as_ U => as_ = #[(.int x0)] ∧ Z.Warmed39 U.vm ∧ U.heap = h0) (fun _ _ _ _ _ => True) (fun _ U o U' => ∃ v L, o = .returned v ∧ (Q_rmD Z x0 h0 n0) v U'.heap L ∧ FrameEnd U o U' L ({ frames := 0, cells := 0, slots := 0, locals := 0 } : Room).cells ({ frames := 0, cells := 0, slots := 0, locals := 0 } : Room).slots) := by
  refine MetFree.of_bodySF (plainFor_of_name pn_0) hisR ?_
  intro p e s m args below meth c s₁ Bd hml0 hP hK
  obtain ⟨rfl, hZ, hh⟩ := hP
  have hx := Bd.exec
  have hby := Bd.bytes
  have hml : c.maxLocals = 1 := hml0
  have hown : s.vm.findClass "com/example/accordant/accordant/document/WhiteSpaceIsBlankPinLaw" = some m.cls := findClass_of_methodNamed Bd.named
  have hnm := (name_of_methodNamed Bd.named Bd.method).1
  have X0 : Stand p l e ({ frames := 0, cells := 0, slots := 0, locals := 0 } : Room) s m #[(.int x0)] below meth c s₁ [] 0 0 := Stand.of_body Bd
  have e0 : s₁.heap = h0 := by rw [← hh, Bd.state]; rfl
  have N0 := Fr.nil n0
  show own_G p e below s (Q_rmD Z x0 h0 n0) ({ frames := 0, cells := 0, slots := 0, locals := 0 } : Room).cells ({ frames := 0, cells := 0, slots := 0, locals := 0 } : Room).slots (s₁.setTop (entryFrame m #[(.int x0)] 1))
  rw [ef_rmD m x0]
  show own_G p e below s _ _ _ (s₁.setTop (mkF m 0 #[.val (.int x0)] []))
  refine own_go (fun _ k => XS.iloadN X0.here hx rfl (hb hby d1_0) rfl k) ?_
  show own_G p e below s _ _ _ (s₁.setTop (mkF m 1 #[.val (.int x0)] [(.int x0)]))
  refine own_go (fun _ k => X0.ldcInt hx hown (mvT hZ (hw _ (List.mem_of_getElem? (i := 5) rfl))) (g := (mkF m 1 #[.val (.int x0)] [(.int x0)])) rfl (hb hby d1_1) _ k) ?_
  show own_G p e below s _ _ _ (s₁.setTop (mkF m 3 #[.val (.int x0)] [(.int (65536 : Int32)), (.int x0)]))
  refine own_go (fun _ k => XS.iand X0.here hx rfl (hb hby d1_3) rfl k) ?_
  show own_G p e below s _ _ _ (s₁.setTop (mkF m 4 #[.val (.int x0)] [(.int (x0 &&& (65536 : Int32)))]))
  refine own_if_eq X0 hx (pc := 4) (pc' := 14) (hb hby d1_4) (by decide) (by decide) (fun hc4 => ?_) (fun hc4 => ?_)
  · show own_G p e below s _ _ _ (s₁.setTop (mkF m 14 #[.val (.int x0)] []))
    refine own_go (fun _ k => XS.iloadN X0.here hx rfl (hb hby d1_14) rfl k) ?_
    show own_G p e below s _ _ _ (s₁.setTop (mkF m 15 #[.val (.int x0)] [(.int x0)]))
    refine own_go (fun _ k => X0.ldcInt hx hown (mvT hZ (hw _ (List.mem_of_getElem? (i := 6) rfl))) (g := (mkF m 15 #[.val (.int x0)] [(.int x0)])) rfl (hb hby d1_15) _ k) ?_
    show own_G p e below s _ _ _ (s₁.setTop (mkF m 17 #[.val (.int x0)] [(.int (65535 : Int32)), (.int x0)]))
    refine own_go (fun _ k => XS.iand X0.here hx rfl (hb hby d1_17) rfl k) ?_
    show own_G p e below s _ _ _ (s₁.setTop (mkF m 18 #[.val (.int x0)] [(.int (x0 &&& (65535 : Int32)))]))
    refine own_go (fun _ k => XS.i2c X0.here hx rfl (hb hby d1_18) rfl k) ?_
    show own_G p e below s _ _ _ (s₁.setTop (mkF m 19 #[.val (.int x0)] [(.int ((x0 &&& (65535 : Int32)).toUInt32.toUInt16.toUInt32.toInt32))]))
    exact own_retN (t := .char) (ht := by simp) X0 hx Bd.returns (BodyLoose.notSynchronized Bd) (hb hby d1_19) e0 ⟨_, rfl, N0, rfl⟩ (by decide) (by decide)
  · show own_G p e below s _ _ _ (s₁.setTop (mkF m 7 #[.val (.int x0)] []))
    refine own_go (fun _ k => XS.iloadN X0.here hx rfl (hb hby d1_7) rfl k) ?_
    show own_G p e below s _ _ _ (s₁.setTop (mkF m 8 #[.val (.int x0)] [(.int x0)]))
    refine own_go (fun _ k => XS.bipush X0.here hx rfl (hb hby d1_8) k) ?_
    show own_G p e below s _ _ _ (s₁.setTop (mkF m 10 #[.val (.int x0)] [(.int (63 : Int32)), (.int x0)]))
    refine own_go (fun _ k => XS.iand X0.here hx rfl (hb hby d1_10) rfl k) ?_
    show own_G p e below s _ _ _ (s₁.setTop (mkF m 11 #[.val (.int x0)] [(.int (x0 &&& (63 : Int32)))]))
    refine own_go (fun _ k => XS.goto X0.here hx rfl (pc0 := 11) (pc' := 18) rfl (hb hby d1_11) (by decide) (by decide) k) ?_
    show own_G p e below s _ _ _ (s₁.setTop (mkF m 18 #[.val (.int x0)] [(.int (x0 &&& (63 : Int32)))]))
    refine own_go (fun _ k => XS.i2c X0.here hx rfl (hb hby d1_18) rfl k) ?_
    show own_G p e below s _ _ _ (s₁.setTop (mkF m 19 #[.val (.int x0)] [(.int ((x0 &&& (63 : Int32)).toUInt32.toUInt16.toUInt32.toInt32))]))
    exact own_retN (t := .char) (ht := by simp) X0 hx Bd.returns (BodyLoose.notSynchronized Bd) (hb hby d1_19) e0 ⟨_, rfl, N0, rfl⟩ (by decide) (by decide)
theorem d2_0 : decode method_3_code 0 = .ok (.iload_n 2, 1) := by decide +kernel
theorem d2_1 : decode method_3_code 1 = .ok (.iload_n 1, 1) := by decide +kernel
theorem d2_2 : decode method_3_code 2 = .ok (.if_icmp .gt 18, 3) := by decide +kernel
theorem d2_5 : decode method_3_code 5 = .ok (.iload_n 1, 1) := by decide +kernel
theorem d2_6 : decode method_3_code 6 = .ok (.iload_n 3, 1) := by decide +kernel
theorem d2_7 : decode method_3_code 7 = .ok (.if_icmp .ge 13, 3) := by decide +kernel
theorem d2_10 : decode method_3_code 10 = .ok (.iload_n 0, 1) := by decide +kernel
theorem d2_11 : decode method_3_code 11 = .ok (.bipush 32, 2) := by decide +kernel
theorem d2_13 : decode method_3_code 13 = .ok (.if_icmp .le 7, 3) := by decide +kernel
theorem d2_16 : decode method_3_code 16 = .ok (.iconst 1, 1) := by decide +kernel
theorem d2_17 : decode method_3_code 17 = .ok (.goto 4, 3) := by decide +kernel
theorem d2_20 : decode method_3_code 20 = .ok (.iconst 0, 1) := by decide +kernel
theorem d2_21 : decode method_3_code 21 = .ok (.ireturn, 1) := by decide +kernel
theorem ef_rmS (m : MethodId) (x0 : Int32) (x1 : Int32) (x2 : Int32) (x3 : Int32) : entryFrame m #[(.int x0), (.int x1), (.int x2), (.int x3)] 4 = mkF m 0 #[.val (.int x0), .val (.int x1), .val (.int x2), .val (.int x3)] [] := by first | (simp [entryFrame, mkF, argsToLocals, Value.category]; done) | rfl
def Q_rmS (Z : State) (x0 x1 x2 x3 : Int32) (h0 : Heap) (n0 : Nat) : Option Value → Heap → List Loc → Prop := fun v h L => v = some (.int (if ¬ (x1 < x2) ∧ x1 < x3 ∧ 32 < x0 then 1 else 0)) ∧ Fr n0 L ∧ h = h0
set_option maxRecDepth 65536 in
set_option maxHeartbeats 40000000 in
theorem rmS (l : Launch) (Z : State) (a0 : Array Value) (hw : ∀ d ∈ tables_1, d.before a0 Z = true) (ws : List Jvm.Cond) (x0 x1 x2 x3 : Int32) (h0 : Heap) (n0 : Nat) (Z0 : n0 ≤ h0.size)  :
    MetFree l (⟨"com/example/accordant/accordant/document/WhiteSpaceIsBlankPinLaw", "spoils", "(CIII)Z"⟩ : MethodName) (head1 (Jvm.Cond.code (⟨"com/example/accordant/accordant/document/WhiteSpaceIsBlankPinLaw", "spoils", "(CIII)Z"⟩ : MethodName) method_3_code 4 (some .boolean) :: ws) ({ frames := 0, cells := 0, slots := 0, locals := 0 } : Room)) (fun as_ U => as_ = #[(.int x0), (.int x1), (.int x2), (.int x3)] ∧ Z.Warmed39 U.vm ∧ U.heap = h0) (fun _ _ _ _ _ => True) (fun _ U o U' => ∃ v L, o = .returned v ∧ (Q_rmS Z x0 x1 x2 x3 h0 n0) v U'.heap L ∧ FrameEnd U o U' L ({ frames := 0, cells := 0, slots := 0, locals := 0 } : Room).cells ({ frames := 0, cells := 0, slots := 0, locals := 0 } : Room).slots) := by
  refine MetFree.of_bodySF (plainFor_of_name pn_0) hisR ?_
  intro p e s m args below meth c s₁ Bd hml0 hP hK
  obtain ⟨rfl, hZ, hh⟩ := hP
  have hx := Bd.exec
  have hby := Bd.bytes
  have hml : c.maxLocals = 4 := hml0
  have hown : s.vm.findClass "com/example/accordant/accordant/document/WhiteSpaceIsBlankPinLaw" = some m.cls := findClass_of_methodNamed Bd.named
  have hnm := (name_of_methodNamed Bd.named Bd.method).1
  have X0 : Stand p l e ({ frames := 0, cells := 0, slots := 0, locals := 0 } : Room) s m #[(.int x0), (.int x1), (.int x2), (.int x3)] below meth c s₁ [] 0 0 := Stand.of_body Bd
  have e0 : s₁.heap = h0 := by rw [← hh, Bd.state]; rfl
  have N0 := Fr.nil n0
  show own_G p e below s (Q_rmS Z x0 x1 x2 x3 h0 n0) ({ frames := 0, cells := 0, slots := 0, locals := 0 } : Room).cells ({ frames := 0, cells := 0, slots := 0, locals := 0 } : Room).slots (s₁.setTop (entryFrame m #[(.int x0), (.int x1), (.int x2), (.int x3)] 4))
  rw [ef_rmS m x0 x1 x2 x3]
  show own_G p e below s _ _ _ (s₁.setTop (mkF m 0 #[.val (.int x0), .val (.int x1), .val (.int x2), .val (.int x3)] []))
  refine own_go (fun _ k => XS.iloadN X0.here hx rfl (hb hby d2_0) rfl k) ?_
  show own_G p e below s _ _ _ (s₁.setTop (mkF m 1 #[.val (.int x0), .val (.int x1), .val (.int x2), .val (.int x3)] [(.int x2)]))
  refine own_go (fun _ k => XS.iloadN X0.here hx rfl (hb hby d2_1) rfl k) ?_
  show own_G p e below s _ _ _ (s₁.setTop (mkF m 2 #[.val (.int x0), .val (.int x1), .val (.int x2), .val (.int x3)] [(.int x1), (.int x2)]))
  refine own_ic_gt X0 hx (pc := 2) (pc' := 20) (hb hby d2_2) (by decide) (by decide) (fun hc2 => ?_) (fun hc2 => ?_)
  · show own_G p e below s _ _ _ (s₁.setTop (mkF m 20 #[.val (.int x0), .val (.int x1), .val (.int x2), .val (.int x3)] []))
    refine own_go (fun _ k => XS.iconst X0.here hx rfl (hb hby d2_20) k) ?_
    show own_G p e below s _ _ _ (s₁.setTop (mkF m 21 #[.val (.int x0), .val (.int x1), .val (.int x2), .val (.int x3)] [(.int (0 : Int32))]))
    exact own_retN (t := .boolean) (ht := by simp) X0 hx Bd.returns (BodyLoose.notSynchronized Bd) (hb hby d2_21) e0 ⟨by simp [own_nar1, own_nar0, hc2], N0, rfl⟩ (by decide) (by decide)
  · show own_G p e below s _ _ _ (s₁.setTop (mkF m 5 #[.val (.int x0), .val (.int x1), .val (.int x2), .val (.int x3)] []))
    refine own_go (fun _ k => XS.iloadN X0.here hx rfl (hb hby d2_5) rfl k) ?_
    show own_G p e below s _ _ _ (s₁.setTop (mkF m 6 #[.val (.int x0), .val (.int x1), .val (.int x2), .val (.int x3)] [(.int x1)]))
    refine own_go (fun _ k => XS.iloadN X0.here hx rfl (hb hby d2_6) rfl k) ?_
    show own_G p e below s _ _ _ (s₁.setTop (mkF m 7 #[.val (.int x0), .val (.int x1), .val (.int x2), .val (.int x3)] [(.int x3), (.int x1)]))
    refine own_ic_ge X0 hx (pc := 7) (pc' := 20) (hb hby d2_7) (by decide) (by decide) (fun hc7 => ?_) (fun hc7 => ?_)
    · show own_G p e below s _ _ _ (s₁.setTop (mkF m 20 #[.val (.int x0), .val (.int x1), .val (.int x2), .val (.int x3)] []))
      refine own_go (fun _ k => XS.iconst X0.here hx rfl (hb hby d2_20) k) ?_
      show own_G p e below s _ _ _ (s₁.setTop (mkF m 21 #[.val (.int x0), .val (.int x1), .val (.int x2), .val (.int x3)] [(.int (0 : Int32))]))
      exact own_retN (t := .boolean) (ht := by simp) X0 hx Bd.returns (BodyLoose.notSynchronized Bd) (hb hby d2_21) e0 ⟨by simp [own_nar1, own_nar0, hc2, hc7], N0, rfl⟩ (by decide) (by decide)
    · show own_G p e below s _ _ _ (s₁.setTop (mkF m 10 #[.val (.int x0), .val (.int x1), .val (.int x2), .val (.int x3)] []))
      refine own_go (fun _ k => XS.iloadN X0.here hx rfl (hb hby d2_10) rfl k) ?_
      show own_G p e below s _ _ _ (s₁.setTop (mkF m 11 #[.val (.int x0), .val (.int x1), .val (.int x2), .val (.int x3)] [(.int x0)]))
      refine own_go (fun _ k => XS.bipush X0.here hx rfl (hb hby d2_11) k) ?_
      show own_G p e below s _ _ _ (s₁.setTop (mkF m 13 #[.val (.int x0), .val (.int x1), .val (.int x2), .val (.int x3)] [(.int (32 : Int32)), (.int x0)]))
      refine own_ic_le X0 hx (pc := 13) (pc' := 20) (hb hby d2_13) (by decide) (by decide) (fun hc13 => ?_) (fun hc13 => ?_)
      · show own_G p e below s _ _ _ (s₁.setTop (mkF m 20 #[.val (.int x0), .val (.int x1), .val (.int x2), .val (.int x3)] []))
        refine own_go (fun _ k => XS.iconst X0.here hx rfl (hb hby d2_20) k) ?_
        show own_G p e below s _ _ _ (s₁.setTop (mkF m 21 #[.val (.int x0), .val (.int x1), .val (.int x2), .val (.int x3)] [(.int (0 : Int32))]))
        exact own_retN (t := .boolean) (ht := by simp) X0 hx Bd.returns (BodyLoose.notSynchronized Bd) (hb hby d2_21) e0 ⟨by simp [own_nar1, own_nar0, hc2, hc7, hc13], N0, rfl⟩ (by decide) (by decide)
      · show own_G p e below s _ _ _ (s₁.setTop (mkF m 16 #[.val (.int x0), .val (.int x1), .val (.int x2), .val (.int x3)] []))
        refine own_go (fun _ k => XS.iconst X0.here hx rfl (hb hby d2_16) k) ?_
        show own_G p e below s _ _ _ (s₁.setTop (mkF m 17 #[.val (.int x0), .val (.int x1), .val (.int x2), .val (.int x3)] [(.int (1 : Int32))]))
        refine own_go (fun _ k => XS.goto X0.here hx rfl (pc0 := 17) (pc' := 21) rfl (hb hby d2_17) (by decide) (by decide) k) ?_
        show own_G p e below s _ _ _ (s₁.setTop (mkF m 21 #[.val (.int x0), .val (.int x1), .val (.int x2), .val (.int x3)] [(.int (1 : Int32))]))
        exact own_retN (t := .boolean) (ht := by simp) X0 hx Bd.returns (BodyLoose.notSynchronized Bd) (hb hby d2_21) e0 ⟨by simp [own_nar1, own_nar0, hc2, hc7, hc13], N0, rfl⟩ (by decide) (by decide)
theorem d3_0 : decode prog_26_method_3_code 0 = .ok (.iload_n 1, 1) := by decide +kernel
theorem d3_1 : decode prog_26_method_3_code 1 = .ok (.istore_n 3, 1) := by decide +kernel
theorem d3_2 : decode prog_26_method_3_code 2 = .ok (.iload_n 3, 1) := by decide +kernel
theorem d3_3 : decode prog_26_method_3_code 3 = .ok (.iload_n 2, 1) := by decide +kernel
theorem d3_4 : decode prog_26_method_3_code 4 = .ok (.if_icmp .ge 19, 3) := by decide +kernel
theorem d3_7 : decode prog_26_method_3_code 7 = .ok (.aload_n 0, 1) := by decide +kernel
theorem d3_8 : decode prog_26_method_3_code 8 = .ok (.iload_n 3, 1) := by decide +kernel
theorem d3_9 : decode prog_26_method_3_code 9 = .ok (.caload, 1) := by decide +kernel
theorem d3_10 : decode prog_26_method_3_code 10 = .ok (.bipush 32, 2) := by decide +kernel
theorem d3_12 : decode prog_26_method_3_code 12 = .ok (.if_icmp .le 5, 3) := by decide +kernel
theorem d3_15 : decode prog_26_method_3_code 15 = .ok (.iconst 0, 1) := by decide +kernel
theorem d3_16 : decode prog_26_method_3_code 16 = .ok (.ireturn, 1) := by decide +kernel
theorem d3_17 : decode prog_26_method_3_code 17 = .ok (.iinc 3 1, 3) := by decide +kernel
theorem d3_20 : decode prog_26_method_3_code 20 = .ok (.goto (-18), 3) := by decide +kernel
theorem d3_23 : decode prog_26_method_3_code 23 = .ok (.iconst 1, 1) := by decide +kernel
theorem d3_24 : decode prog_26_method_3_code 24 = .ok (.ireturn, 1) := by decide +kernel
theorem pn_1 : plainName "com/example/accordant/accordant/document/WhiteSpace" = true := by first | (simp [plainName, overriddenIn]; done) | decide +kernel
theorem ef_rmB (m : MethodId) (x0 : Addr) (x1 : Int32) (x2 : Int32) : entryFrame m #[(.ref x0), (.int x1), (.int x2)] 4 = mkF m 0 #[.val (.ref x0), .val (.int x1), .val (.int x2), .unset] [] := by first | (simp [entryFrame, mkF, argsToLocals, Value.category]; done) | rfl
def Q_rmB (Z : State) (a : Addr) (ka : ClassId) (vs : List Value) (f : Nat → Int32) (S E : Nat) (h0 : Heap) (n0 : Nat) : Option Value → Heap → List Loc → Prop := fun v h L => v = some (.int (own_bl f (E - S) S)) ∧ Fr n0 L ∧ h = h0
set_option maxRecDepth 65536 in
set_option maxHeartbeats 40000000 in
theorem rmB (l : Launch) (Z : State) (a0 : Array Value) (hw : ∀ d ∈ tables_1, d.before a0 Z = true) (ws : List Jvm.Cond) (a : Addr) (ka : ClassId) (vs : List Value) (f : Nat → Int32) (S E : Nat) (h0 : Heap) (n0 : Nat) (Z0 : n0 ≤ h0.size) (V_a : Arv Z h0 a ka .char 4 vs (.int (0 : Int32))) (hf : ∀ j, j < 4 → vs.getD j (.int (0 : Int32)) = .int (f j)) (hS : S < 5) (hE : E < 5) :
    MetFree l (⟨"com/example/accordant/accordant/document/WhiteSpace", "isBlank", "([CII)Z"⟩ : MethodName) (head1 (Jvm.Cond.code (⟨"com/example/accordant/accordant/document/WhiteSpace", "isBlank", "([CII)Z"⟩ : MethodName) prog_26_method_3_code 4 (some .boolean) :: ws) ({ frames := 0, cells := 0, slots := 0, locals := 0 } : Room)) (fun as_ U => as_ = #[(.ref a), (.int (Int32.ofNat S)), (.int (Int32.ofNat E))] ∧ Z.Warmed39 U.vm ∧ U.heap = h0) (fun _ _ _ _ _ => True) (fun _ U o U' => ∃ v L, o = .returned v ∧ (Q_rmB Z a ka vs f S E h0 n0) v U'.heap L ∧ FrameEnd U o U' L ({ frames := 0, cells := 0, slots := 0, locals := 0 } : Room).cells ({ frames := 0, cells := 0, slots := 0, locals := 0 } : Room).slots) := by
  refine MetFree.of_bodySF (plainFor_of_name pn_1) hisR ?_
  intro p e s m args below meth c s₁ Bd hml0 hP hK
  obtain ⟨rfl, hZ, hh⟩ := hP
  have hx := Bd.exec
  have hby := Bd.bytes
  have hml : c.maxLocals = 4 := hml0
  have hown : s.vm.findClass "com/example/accordant/accordant/document/WhiteSpace" = some m.cls := findClass_of_methodNamed Bd.named
  have hnm := (name_of_methodNamed Bd.named Bd.method).1
  have X0 : Stand p l e ({ frames := 0, cells := 0, slots := 0, locals := 0 } : Room) s m #[(.ref a), (.int (Int32.ofNat S)), (.int (Int32.ofNat E))] below meth c s₁ [] 0 0 := Stand.of_body Bd
  have e0 : s₁.heap = h0 := by rw [← hh, Bd.state]; rfl
  have N0 := Fr.nil n0
  show own_G p e below s (Q_rmB Z a ka vs f S E h0 n0) ({ frames := 0, cells := 0, slots := 0, locals := 0 } : Room).cells ({ frames := 0, cells := 0, slots := 0, locals := 0 } : Room).slots (s₁.setTop (entryFrame m #[(.ref a), (.int (Int32.ofNat S)), (.int (Int32.ofNat E))] 4))
  rw [ef_rmB m a (Int32.ofNat S) (Int32.ofNat E)]
  have loop : ∀ (k i : Nat) (T : State), i < 5 → k = E - i → Stand p l e ({ frames := 0, cells := 0, slots := 0, locals := 0 } : Room) s m #[(.ref a), (.int (Int32.ofNat S)), (.int (Int32.ofNat E))] below meth c T [] 0 0 → T.heap = h0 → own_bl f k i = own_bl f (E - S) S → own_G p e below s (Q_rmB Z a ka vs f S E h0 n0) ({ frames := 0, cells := 0, slots := 0, locals := 0 } : Room).cells ({ frames := 0, cells := 0, slots := 0, locals := 0 } : Room).slots (T.setTop (mkF m 2 #[.val (.ref a), .val (.int (Int32.ofNat S)), .val (.int (Int32.ofNat E)), .val (.int (Int32.ofNat i))] [])) := by
    intro k
    induction k with
    | zero =>
      intro i T hi hk X e' hq
      show own_G p e below s _ _ _ (T.setTop (mkF m 2 #[.val (.ref a), .val (.int (Int32.ofNat S)), .val (.int (Int32.ofNat E)), .val (.int (Int32.ofNat i))] []))
      refine own_go (fun _ k => XS.iloadN X.here hx rfl (hb hby d3_2) rfl k) ?_
      show own_G p e below s _ _ _ (T.setTop (mkF m 3 #[.val (.ref a), .val (.int (Int32.ofNat S)), .val (.int (Int32.ofNat E)), .val (.int (Int32.ofNat i))] [(.int (Int32.ofNat i))]))
      refine own_go (fun _ k => XS.iloadN X.here hx rfl (hb hby d3_3) rfl k) ?_
      show own_G p e below s _ _ _ (T.setTop (mkF m 4 #[.val (.ref a), .val (.int (Int32.ofNat S)), .val (.int (Int32.ofNat E)), .val (.int (Int32.ofNat i))] [(.int (Int32.ofNat E)), (.int (Int32.ofNat i))]))
      refine own_ic_geY X hx (pc := 4) (pc' := 23) (hb hby d3_4) (by decide) (by decide) (fun q => by rw [own_lt (by omega) (by omega)] at q; omega) ?_
      show own_G p e below s _ _ _ (T.setTop (mkF m 23 #[.val (.ref a), .val (.int (Int32.ofNat S)), .val (.int (Int32.ofNat E)), .val (.int (Int32.ofNat i))] []))
      refine own_go (fun _ k => XS.iconst X.here hx rfl (hb hby d3_23) k) ?_
      show own_G p e below s _ _ _ (T.setTop (mkF m 24 #[.val (.ref a), .val (.int (Int32.ofNat S)), .val (.int (Int32.ofNat E)), .val (.int (Int32.ofNat i))] [(.int (1 : Int32))]))
      exact own_retN (t := .boolean) (ht := by simp) X hx Bd.returns (BodyLoose.notSynchronized Bd) (hb hby d3_24) e' ⟨by rw [← hq]; rfl, N0, rfl⟩ (by decide) (by decide)
    | succ k ih =>
      intro i T hi hk X e' hq
      have hi4 : i < 4 := by omega
      show own_G p e below s _ _ _ (T.setTop (mkF m 2 #[.val (.ref a), .val (.int (Int32.ofNat S)), .val (.int (Int32.ofNat E)), .val (.int (Int32.ofNat i))] []))
      refine own_go (fun _ k => XS.iloadN X.here hx rfl (hb hby d3_2) rfl k) ?_
      show own_G p e below s _ _ _ (T.setTop (mkF m 3 #[.val (.ref a), .val (.int (Int32.ofNat S)), .val (.int (Int32.ofNat E)), .val (.int (Int32.ofNat i))] [(.int (Int32.ofNat i))]))
      refine own_go (fun _ k => XS.iloadN X.here hx rfl (hb hby d3_3) rfl k) ?_
      show own_G p e below s _ _ _ (T.setTop (mkF m 4 #[.val (.ref a), .val (.int (Int32.ofNat S)), .val (.int (Int32.ofNat E)), .val (.int (Int32.ofNat i))] [(.int (Int32.ofNat E)), (.int (Int32.ofNat i))]))
      refine own_ic_geN X hx (pc := 4) (hb hby d3_4) (by rw [own_lt (by omega) (by omega)]; omega) ?_
      show own_G p e below s _ _ _ (T.setTop (mkF m 7 #[.val (.ref a), .val (.int (Int32.ofNat S)), .val (.int (Int32.ofNat E)), .val (.int (Int32.ofNat i))] []))
      refine own_go (fun _ k => XS.aloadN X.here hx rfl (hb hby d3_7) rfl rfl k) ?_
      show own_G p e below s _ _ _ (T.setTop (mkF m 8 #[.val (.ref a), .val (.int (Int32.ofNat S)), .val (.int (Int32.ofNat E)), .val (.int (Int32.ofNat i))] [(.ref a)]))
      refine own_go (fun _ k => XS.iloadN X.here hx rfl (hb hby d3_8) rfl k) ?_
      show own_G p e below s _ _ _ (T.setTop (mkF m 9 #[.val (.ref a), .val (.int (Int32.ofNat S)), .val (.int (Int32.ofNat E)), .val (.int (Int32.ofNat i))] [(.int (Int32.ofNat i)), (.ref a)]))
      have Vc1 := V_a
      obtain ⟨cl1, Ar1, q1, S1, M1, H1, G1⟩ := Vc1
      have hin1 := inb_of (j := (Int32.ofNat i)) S1 (own_in hi4)
      have hat1 := H1.at hin1 (v := (.int (f i))) (by rw [own_n hi4]; exact hf i hi4)
      refine own_go (X.caload hx (j := (Int32.ofNat i)) (v := (.int (f i))) (by rw [e']; exact Ar1.1) (State.isArrayOf_alike hZ.alike Ar1.2.1) Ar1.2.2 hin1 hat1 (g := (mkF m 9 #[.val (.ref a), .val (.int (Int32.ofNat S)), .val (.int (Int32.ofNat E)), .val (.int (Int32.ofNat i))] [(.int (Int32.ofNat i)), (.ref a)])) rfl rfl (hb hby d3_9)) ?_
      show own_G p e below s _ _ _ (T.setTop (mkF m 10 #[.val (.ref a), .val (.int (Int32.ofNat S)), .val (.int (Int32.ofNat E)), .val (.int (Int32.ofNat i))] [(.int (f i))]))
      refine own_go (fun _ k => XS.bipush X.here hx rfl (hb hby d3_10) k) ?_
      show own_G p e below s _ _ _ (T.setTop (mkF m 12 #[.val (.ref a), .val (.int (Int32.ofNat S)), .val (.int (Int32.ofNat E)), .val (.int (Int32.ofNat i))] [(.int (32 : Int32)), (.int (f i))]))
      refine own_ic_le X hx (pc := 12) (pc' := 17) (hb hby d3_12) (by decide) (by decide) (fun hc12 => ?_) (fun hc12 => ?_)
      · show own_G p e below s _ _ _ (T.setTop (mkF m 17 #[.val (.ref a), .val (.int (Int32.ofNat S)), .val (.int (Int32.ofNat E)), .val (.int (Int32.ofNat i))] []))
        refine own_go (fun _ k => XS.iinc X.here hx rfl (hb hby d3_17) rfl (l' := #[.val (.ref a), .val (.int (Int32.ofNat S)), .val (.int (Int32.ofNat E)), .val (.int ((Int32.ofNat i) + (1 : Int32)))]) rfl k) ?_
        show own_G p e below s _ _ _ (T.setTop (mkF m 20 #[.val (.ref a), .val (.int (Int32.ofNat S)), .val (.int (Int32.ofNat E)), .val (.int ((Int32.ofNat i) + (1 : Int32)))] []))
        refine own_go (fun _ k => XS.goto X.here hx rfl (pc0 := 20) (pc' := 2) rfl (hb hby d3_20) (by decide) (by decide) k) ?_
        rw [own_succ i]
        exact ih (i + 1) T (by omega) (by omega) X e' (by rw [← hq, own_bl, if_neg hc12])
      · show own_G p e below s _ _ _ (T.setTop (mkF m 15 #[.val (.ref a), .val (.int (Int32.ofNat S)), .val (.int (Int32.ofNat E)), .val (.int (Int32.ofNat i))] []))
        refine own_go (fun _ k => XS.iconst X.here hx rfl (hb hby d3_15) k) ?_
        show own_G p e below s _ _ _ (T.setTop (mkF m 16 #[.val (.ref a), .val (.int (Int32.ofNat S)), .val (.int (Int32.ofNat E)), .val (.int (Int32.ofNat i))] [(.int (0 : Int32))]))
        exact own_retN (t := .boolean) (ht := by simp) X hx Bd.returns (BodyLoose.notSynchronized Bd) (hb hby d3_16) e' ⟨by rw [← hq, own_bl, if_pos hc12]; rfl, N0, rfl⟩ (by decide) (by decide)
  show own_G p e below s _ _ _ (s₁.setTop (mkF m 0 #[.val (.ref a), .val (.int (Int32.ofNat S)), .val (.int (Int32.ofNat E)), .unset] []))
  refine own_go (fun _ k => XS.iloadN X0.here hx rfl (hb hby d3_0) rfl k) ?_
  show own_G p e below s _ _ _ (s₁.setTop (mkF m 1 #[.val (.ref a), .val (.int (Int32.ofNat S)), .val (.int (Int32.ofNat E)), .unset] [(.int (Int32.ofNat S))]))
  refine own_go (fun _ k => XS.istoreN X0.here hx rfl (hb hby d3_1) rfl (l' := #[.val (.ref a), .val (.int (Int32.ofNat S)), .val (.int (Int32.ofNat E)), .val (.int (Int32.ofNat S))]) rfl k) ?_
  exact loop (E - S) S s₁ hS rfl X0 e0 rfl
theorem pd_1 : parseMethodDescriptor "(CIII)Z" = some ⟨[.char, .int, .int, .int], some .boolean⟩ := by decide +kernel
theorem pd_0 : parseMethodDescriptor "(I)C" = some ⟨[.int], some .char⟩ := by decide +kernel
theorem pd_2 : parseMethodDescriptor "([CII)Z" = some ⟨[(.array .char), .int, .int], some .boolean⟩ := by decide +kernel
theorem ef_rm0 (m : MethodId) (x0 : Int32) (x1 : Int32) (x2 : Int32) (x3 : Int32) (x4 : Int32) : entryFrame m #[(.int x0), (.int x1), (.int x2), (.int x3), (.int x4)] maxLocals = mkF m 0 #[.val (.int x0), .val (.int x1), .val (.int x2), .val (.int x3), .val (.int x4), .unset, .unset, .unset, .unset] [] := by first | (simp [entryFrame, mkF, argsToLocals, Value.category, maxLocals]; done) | rfl
def Q_rm0 (Z : State) (x0 x1 x2 x3 x4 : Int32) (h0 : Heap) (n0 : Nat) : Option Value → Heap → List Loc → Prop := fun v h L => v = some (.int 1) ∧ Fr n0 L
set_option maxRecDepth 65536 in
set_option maxHeartbeats 40000000 in
theorem rm0 (l : Launch) (Z : State) (a0 : Array Value) (hw : ∀ d ∈ tables_1, d.before a0 Z = true) (ws : List Jvm.Cond) (x0 x1 x2 x3 x4 : Int32) (h0 : Heap) (n0 : Nat) (Z0 : n0 ≤ h0.size)  :
    MetFree l x (head1 (Jvm.Cond.code x code maxLocals ret :: ws) room_1) (fun as_ U => as_ = #[(.int x0), (.int x1), (.int x2), (.int x3), (.int x4)] ∧ Z.Warmed39 U.vm ∧ U.heap = h0) (fun _ _ _ _ _ => True) (fun _ U o U' => ∃ v L, o = .returned v ∧ (Q_rm0 Z x0 x1 x2 x3 x4 h0 n0) v U'.heap L ∧ FrameEnd U o U' L 16 128) := by
  refine MetFree.of_bodySF (plainFor_of_name pn_0) hisR ?_
  intro p e s m args below meth c s₁ Bd hml0 hP hK
  obtain ⟨rfl, hZ, hh⟩ := hP
  have hx := Bd.exec
  have hby := Bd.bytes
  have hml : c.maxLocals = 9 := hml0
  have hown : s.vm.findClass "com/example/accordant/accordant/document/WhiteSpaceIsBlankPinLaw" = some m.cls := findClass_of_methodNamed Bd.named
  have hnm := (name_of_methodNamed Bd.named Bd.method).1
  have X0 : Stand p l e room_1 s m #[(.int x0), (.int x1), (.int x2), (.int x3), (.int x4)] below meth c s₁ [] 0 0 := Stand.of_body Bd
  have e0 : s₁.heap = h0 := by rw [← hh, Bd.state]; rfl
  have N0 := Fr.nil n0
  show own_G p e below s (Q_rm0 Z x0 x1 x2 x3 x4 h0 n0) 16 128 (s₁.setTop (entryFrame m #[(.int x0), (.int x1), (.int x2), (.int x3), (.int x4)] maxLocals))
  rw [ef_rm0 m x0 x1 x2 x3 x4]
  obtain ⟨S, hS, eS⟩ := own_rem x4
  obtain ⟨E, hE, eE⟩ := own_rem ((x4.toUInt32 >>> ((3 : Int32) &&& 31).toUInt32).toInt32)
  show own_G p e below s _ _ _ (s₁.setTop (mkF m 0 #[.val (.int x0), .val (.int x1), .val (.int x2), .val (.int x3), .val (.int x4), .unset, .unset, .unset, .unset] []))
  refine own_go (fun _ k => XS.iconst X0.here hx rfl (hb hby at_0) k) ?_
  show own_G p e below s _ _ _ (s₁.setTop (mkF m 1 #[.val (.int x0), .val (.int x1), .val (.int x2), .val (.int x3), .val (.int x4), .unset, .unset, .unset, .unset] [(.int (4 : Int32))]))
  obtain ⟨T1, h1, k1, X1, e1, E1, A1, st1⟩ := newP X0 hx hZ (hw _ (List.mem_of_getElem? (i := 0) rfl)) e0 (g := (mkF m 1 #[.val (.int x0), .val (.int x1), .val (.int x2), .val (.int x3), .val (.int x4), .unset, .unset, .unset, .unset] [(.int (4 : Int32))])) rfl (hb hby at_1) rfl (by decide) (cap := 4) (by decide) (by decide) (by decide) (by decide)
  obtain ⟨b1, g1⟩ : ∃ z, z = h0.size := ⟨_, rfl⟩
  rw [← g1] at A1 st1
  refine own_go st1 ?_
  have g_b1 : n0 ≤ b1 := Nat.le_trans Z0 (Nat.le_of_eq g1.symm)
  have Z1 : n0 ≤ h1.size := Nat.le_trans Z0 E1.1
  have V1_b1 : Arv Z h1 b1 k1 .char (4 : Int32) [(.int (0 : Int32)), (.int (0 : Int32)), (.int (0 : Int32)), (.int (0 : Int32))] (.int (0 : Int32)) := (Arv.new A1 (by decide)).pad (pad_rep [] (.int (0 : Int32)) 4)
  show own_G p e below s _ _ _ (T1.setTop (mkF m 3 #[.val (.int x0), .val (.int x1), .val (.int x2), .val (.int x3), .val (.int x4), .unset, .unset, .unset, .unset] [(.ref b1)]))
  refine own_go (fun _ k => XS.astore X1.here hx rfl (hb hby at_3) rfl rfl (l' := #[.val (.int x0), .val (.int x1), .val (.int x2), .val (.int x3), .val (.int x4), .val (.ref b1), .unset, .unset, .unset]) rfl k) ?_
  show own_G p e below s _ _ _ (T1.setTop (mkF m 5 #[.val (.int x0), .val (.int x1), .val (.int x2), .val (.int x3), .val (.int x4), .val (.ref b1), .unset, .unset, .unset] []))
  refine own_go (fun _ k => XS.aload X1.here hx rfl (hb hby at_5) rfl rfl k) ?_
  show own_G p e below s _ _ _ (T1.setTop (mkF m 7 #[.val (.int x0), .val (.int x1), .val (.int x2), .val (.int x3), .val (.int x4), .val (.ref b1), .unset, .unset, .unset] [(.ref b1)]))
  refine own_go (fun _ k => XS.iconst X1.here hx rfl (hb hby at_7) k) ?_
  show own_G p e below s _ _ _ (T1.setTop (mkF m 8 #[.val (.int x0), .val (.int x1), .val (.int x2), .val (.int x3), .val (.int x4), .val (.ref b1), .unset, .unset, .unset] [(.int (0 : Int32)), (.ref b1)]))
  refine own_go (fun _ k => XS.iloadN X1.here hx rfl (hb hby at_8) rfl k) ?_
  show own_G p e below s _ _ _ (T1.setTop (mkF m 9 #[.val (.int x0), .val (.int x1), .val (.int x2), .val (.int x3), .val (.int x4), .val (.ref b1), .unset, .unset, .unset] [(.int x0), (.int (0 : Int32)), (.ref b1)]))
  obtain ⟨_, _, ⟨T2, L2, k2, n2⟩, -, X2, ⟨Lc2, hQ2, l2, y2, z2⟩, st2⟩ := Jvm.LawKit.callS X1 hx (y := (⟨"com/example/accordant/accordant/document/WhiteSpaceIsBlankPinLaw", "draw", "(I)C"⟩ : MethodName)) hown (mvT hZ (hw _ (List.mem_of_getElem? (i := 1) rfl))) (mvT hZ (hw _ (List.mem_of_getElem? (i := 2) rfl))) (mvT hZ (hw _ (List.mem_of_getElem? (i := 3) rfl))) (mvT hZ (hw _ (List.mem_of_getElem? (i := 4) rfl))) (by decide) (backOf (W := 2) (rmD l Z a0 hw [] x0 h1 n0 Z1) hZ (hw _ (List.mem_of_getElem? (i := 4) rfl)) (hw _ (List.mem_of_getElem? (i := 3) rfl)) (by decide) (by decide)) (g := (mkF m 9 #[.val (.int x0), .val (.int x1), .val (.int x2), .val (.int x3), .val (.int x4), .val (.ref b1), .unset, .unset, .unset] [(.int x0), (.int (0 : Int32)), (.ref b1)])) rfl (by rw [hml]; rfl) (argsL := [(.int x0)]) (rest := [(.int (0 : Int32)), (.ref b1)]) (lenOf pd_0 rfl) rfl (by show 2 * 0 + _ ≤ _; exact Nat.le_of_eq rfl) (hb hby at_9) (fun _ _ => ⟨rfl, e1, (by decide : 1 + 0 ≤ _), (by decide : 4 + 0 ≤ _)⟩)
  dsimp only [Pt.U, Pt.locs, Pt.cells, Pt.slots] at X2 l2 y2 z2 st2 hQ2
  subst l2 y2 z2
  obtain ⟨cc2, rfl, N2q, e2⟩ := hQ2
  have N2 := Fr.app N0 N2q
  refine own_go st2 ?_
  show own_G p e below s _ _ _ (T2.setTop (mkF m 12 #[.val (.int x0), .val (.int x1), .val (.int x2), .val (.int x3), .val (.int x4), .val (.ref b1), .unset, .unset, .unset] [(.int cc2), (.int (0 : Int32)), (.ref b1)]))
  have Vc3 := V1_b1
  obtain ⟨cl3, Ar3, q3, S3, M3, H3, G3⟩ := Vc3
  have hin3 := inb_of (j := (0 : Int32)) S3 ⟨(by decide), (by decide)⟩
  obtain ⟨T4, h4, X4, e4, W4, st4⟩ := stC X2 hx hZ e2 Ar3 (j := (0 : Int32)) hin3 (g := (mkF m 12 #[.val (.int x0), .val (.int x1), .val (.int x2), .val (.int x3), .val (.int x4), .val (.ref b1), .unset, .unset, .unset] [(.int cc2), (.int (0 : Int32)), (.ref b1)])) rfl rfl (hb hby at_12)
  refine own_go st4 ?_
  have V4_b1 : Arv Z h4 b1 k1 .char (4 : Int32) [(.int (nar .char cc2)), (.int (0 : Int32)), (.int (0 : Int32)), (.int (0 : Int32))] (.int (0 : Int32)) := Arv.set Ar3 q3 S3 M3 H3 G3 (fits_nar_char _) W4 0 rfl (Nat.le_of_ble_eq_true rfl)
  have Z4 : n0 ≤ h4.size := by rw [W4.size]; exact Z1
  have N4 := Fr.snoc X4 N2 g_b1
  show own_G p e below s _ _ _ (T4.setTop (mkF m 13 #[.val (.int x0), .val (.int x1), .val (.int x2), .val (.int x3), .val (.int x4), .val (.ref b1), .unset, .unset, .unset] []))
  refine own_go (fun _ k => XS.aload X4.here hx rfl (hb hby at_13) rfl rfl k) ?_
  show own_G p e below s _ _ _ (T4.setTop (mkF m 15 #[.val (.int x0), .val (.int x1), .val (.int x2), .val (.int x3), .val (.int x4), .val (.ref b1), .unset, .unset, .unset] [(.ref b1)]))
  refine own_go (fun _ k => XS.iconst X4.here hx rfl (hb hby at_15) k) ?_
  show own_G p e below s _ _ _ (T4.setTop (mkF m 16 #[.val (.int x0), .val (.int x1), .val (.int x2), .val (.int x3), .val (.int x4), .val (.ref b1), .unset, .unset, .unset] [(.int (1 : Int32)), (.ref b1)]))
  refine own_go (fun _ k => XS.iloadN X4.here hx rfl (hb hby at_16) rfl k) ?_
  show own_G p e below s _ _ _ (T4.setTop (mkF m 17 #[.val (.int x0), .val (.int x1), .val (.int x2), .val (.int x3), .val (.int x4), .val (.ref b1), .unset, .unset, .unset] [(.int x1), (.int (1 : Int32)), (.ref b1)]))
  obtain ⟨_, _, ⟨T5, L5, k5, n5⟩, -, X5, ⟨Lc5, hQ5, l5, y5, z5⟩, st5⟩ := Jvm.LawKit.callS X4 hx (y := (⟨"com/example/accordant/accordant/document/WhiteSpaceIsBlankPinLaw", "draw", "(I)C"⟩ : MethodName)) hown (mvT hZ (hw _ (List.mem_of_getElem? (i := 1) rfl))) (mvT hZ (hw _ (List.mem_of_getElem? (i := 2) rfl))) (mvT hZ (hw _ (List.mem_of_getElem? (i := 3) rfl))) (mvT hZ (hw _ (List.mem_of_getElem? (i := 4) rfl))) (by decide) (backOf (W := 2) (rmD l Z a0 hw [] x1 h4 n0 Z4) hZ (hw _ (List.mem_of_getElem? (i := 4) rfl)) (hw _ (List.mem_of_getElem? (i := 3) rfl)) (by decide) (by decide)) (g := (mkF m 17 #[.val (.int x0), .val (.int x1), .val (.int x2), .val (.int x3), .val (.int x4), .val (.ref b1), .unset, .unset, .unset] [(.int x1), (.int (1 : Int32)), (.ref b1)])) rfl (by rw [hml]; rfl) (argsL := [(.int x1)]) (rest := [(.int (1 : Int32)), (.ref b1)]) (lenOf pd_0 rfl) rfl (by show 2 * 0 + _ ≤ _; exact Nat.le_of_eq rfl) (hb hby at_17) (fun _ _ => ⟨rfl, e4, (by decide : 1 + 0 ≤ _), (by decide : 4 + 0 ≤ _)⟩)
  dsimp only [Pt.U, Pt.locs, Pt.cells, Pt.slots] at X5 l5 y5 z5 st5 hQ5
  subst l5 y5 z5
  obtain ⟨cc5, rfl, N5q, e5⟩ := hQ5
  have N5 := Fr.app N4 N5q
  refine own_go st5 ?_
  show own_G p e below s _ _ _ (T5.setTop (mkF m 20 #[.val (.int x0), .val (.int x1), .val (.int x2), .val (.int x3), .val (.int x4), .val (.ref b1), .unset, .unset, .unset] [(.int cc5), (.int (1 : Int32)), (.ref b1)]))
  have Vc6 := V4_b1
  obtain ⟨cl6, Ar6, q6, S6, M6, H6, G6⟩ := Vc6
  have hin6 := inb_of (j := (1 : Int32)) S6 ⟨(by decide), (by decide)⟩
  obtain ⟨T7, h7, X7, e7, W7, st7⟩ := stC X5 hx hZ e5 Ar6 (j := (1 : Int32)) hin6 (g := (mkF m 20 #[.val (.int x0), .val (.int x1), .val (.int x2), .val (.int x3), .val (.int x4), .val (.ref b1), .unset, .unset, .unset] [(.int cc5), (.int (1 : Int32)), (.ref b1)])) rfl rfl (hb hby at_20)
  refine own_go st7 ?_
  have V7_b1 : Arv Z h7 b1 k1 .char (4 : Int32) [(.int (nar .char cc2)), (.int (nar .char cc5)), (.int (0 : Int32)), (.int (0 : Int32))] (.int (0 : Int32)) := Arv.set Ar6 q6 S6 M6 H6 G6 (fits_nar_char _) W7 1 rfl (Nat.le_of_ble_eq_true rfl)
  have Z7 : n0 ≤ h7.size := by rw [W7.size]; exact Z4
  have N7 := Fr.snoc X7 N5 g_b1
  show own_G p e below s _ _ _ (T7.setTop (mkF m 21 #[.val (.int x0), .val (.int x1), .val (.int x2), .val (.int x3), .val (.int x4), .val (.ref b1), .unset, .unset, .unset] []))
  refine own_go (fun _ k => XS.aload X7.here hx rfl (hb hby at_21) rfl rfl k) ?_
  show own_G p e below s _ _ _ (T7.setTop (mkF m 23 #[.val (.int x0), .val (.int x1), .val (.int x2), .val (.int x3), .val (.int x4), .val (.ref b1), .unset, .unset, .unset] [(.ref b1)]))
  refine own_go (fun _ k => XS.iconst X7.here hx rfl (hb hby at_23) k) ?_
  show own_G p e below s _ _ _ (T7.setTop (mkF m 24 #[.val (.int x0), .val (.int x1), .val (.int x2), .val (.int x3), .val (.int x4), .val (.ref b1), .unset, .unset, .unset] [(.int (2 : Int32)), (.ref b1)]))
  refine own_go (fun _ k => XS.iloadN X7.here hx rfl (hb hby at_24) rfl k) ?_
  show own_G p e below s _ _ _ (T7.setTop (mkF m 25 #[.val (.int x0), .val (.int x1), .val (.int x2), .val (.int x3), .val (.int x4), .val (.ref b1), .unset, .unset, .unset] [(.int x2), (.int (2 : Int32)), (.ref b1)]))
  obtain ⟨_, _, ⟨T8, L8, k8, n8⟩, -, X8, ⟨Lc8, hQ8, l8, y8, z8⟩, st8⟩ := Jvm.LawKit.callS X7 hx (y := (⟨"com/example/accordant/accordant/document/WhiteSpaceIsBlankPinLaw", "draw", "(I)C"⟩ : MethodName)) hown (mvT hZ (hw _ (List.mem_of_getElem? (i := 1) rfl))) (mvT hZ (hw _ (List.mem_of_getElem? (i := 2) rfl))) (mvT hZ (hw _ (List.mem_of_getElem? (i := 3) rfl))) (mvT hZ (hw _ (List.mem_of_getElem? (i := 4) rfl))) (by decide) (backOf (W := 2) (rmD l Z a0 hw [] x2 h7 n0 Z7) hZ (hw _ (List.mem_of_getElem? (i := 4) rfl)) (hw _ (List.mem_of_getElem? (i := 3) rfl)) (by decide) (by decide)) (g := (mkF m 25 #[.val (.int x0), .val (.int x1), .val (.int x2), .val (.int x3), .val (.int x4), .val (.ref b1), .unset, .unset, .unset] [(.int x2), (.int (2 : Int32)), (.ref b1)])) rfl (by rw [hml]; rfl) (argsL := [(.int x2)]) (rest := [(.int (2 : Int32)), (.ref b1)]) (lenOf pd_0 rfl) rfl (by show 2 * 0 + _ ≤ _; exact Nat.le_of_eq rfl) (hb hby at_25) (fun _ _ => ⟨rfl, e7, (by decide : 1 + 0 ≤ _), (by decide : 4 + 0 ≤ _)⟩)
  dsimp only [Pt.U, Pt.locs, Pt.cells, Pt.slots] at X8 l8 y8 z8 st8 hQ8
  subst l8 y8 z8
  obtain ⟨cc8, rfl, N8q, e8⟩ := hQ8
  have N8 := Fr.app N7 N8q
  refine own_go st8 ?_
  show own_G p e below s _ _ _ (T8.setTop (mkF m 28 #[.val (.int x0), .val (.int x1), .val (.int x2), .val (.int x3), .val (.int x4), .val (.ref b1), .unset, .unset, .unset] [(.int cc8), (.int (2 : Int32)), (.ref b1)]))
  have Vc9 := V7_b1
  obtain ⟨cl9, Ar9, q9, S9, M9, H9, G9⟩ := Vc9
  have hin9 := inb_of (j := (2 : Int32)) S9 ⟨(by decide), (by decide)⟩
  obtain ⟨T10, h10, X10, e10, W10, st10⟩ := stC X8 hx hZ e8 Ar9 (j := (2 : Int32)) hin9 (g := (mkF m 28 #[.val (.int x0), .val (.int x1), .val (.int x2), .val (.int x3), .val (.int x4), .val (.ref b1), .unset, .unset, .unset] [(.int cc8), (.int (2 : Int32)), (.ref b1)])) rfl rfl (hb hby at_28)
  refine own_go st10 ?_
  have V10_b1 : Arv Z h10 b1 k1 .char (4 : Int32) [(.int (nar .char cc2)), (.int (nar .char cc5)), (.int (nar .char cc8)), (.int (0 : Int32))] (.int (0 : Int32)) := Arv.set Ar9 q9 S9 M9 H9 G9 (fits_nar_char _) W10 2 rfl (Nat.le_of_ble_eq_true rfl)
  have Z10 : n0 ≤ h10.size := by rw [W10.size]; exact Z7
  have N10 := Fr.snoc X10 N8 g_b1
  show own_G p e below s _ _ _ (T10.setTop (mkF m 29 #[.val (.int x0), .val (.int x1), .val (.int x2), .val (.int x3), .val (.int x4), .val (.ref b1), .unset, .unset, .unset] []))
  refine own_go (fun _ k => XS.aload X10.here hx rfl (hb hby at_29) rfl rfl k) ?_
  show own_G p e below s _ _ _ (T10.setTop (mkF m 31 #[.val (.int x0), .val (.int x1), .val (.int x2), .val (.int x3), .val (.int x4), .val (.ref b1), .unset, .unset, .unset] [(.ref b1)]))
  refine own_go (fun _ k => XS.iconst X10.here hx rfl (hb hby at_31) k) ?_
  show own_G p e below s _ _ _ (T10.setTop (mkF m 32 #[.val (.int x0), .val (.int x1), .val (.int x2), .val (.int x3), .val (.int x4), .val (.ref b1), .unset, .unset, .unset] [(.int (3 : Int32)), (.ref b1)]))
  refine own_go (fun _ k => XS.iloadN X10.here hx rfl (hb hby at_32) rfl k) ?_
  show own_G p e below s _ _ _ (T10.setTop (mkF m 33 #[.val (.int x0), .val (.int x1), .val (.int x2), .val (.int x3), .val (.int x4), .val (.ref b1), .unset, .unset, .unset] [(.int x3), (.int (3 : Int32)), (.ref b1)]))
  obtain ⟨_, _, ⟨T11, L11, k11, n11⟩, -, X11, ⟨Lc11, hQ11, l11, y11, z11⟩, st11⟩ := Jvm.LawKit.callS X10 hx (y := (⟨"com/example/accordant/accordant/document/WhiteSpaceIsBlankPinLaw", "draw", "(I)C"⟩ : MethodName)) hown (mvT hZ (hw _ (List.mem_of_getElem? (i := 1) rfl))) (mvT hZ (hw _ (List.mem_of_getElem? (i := 2) rfl))) (mvT hZ (hw _ (List.mem_of_getElem? (i := 3) rfl))) (mvT hZ (hw _ (List.mem_of_getElem? (i := 4) rfl))) (by decide) (backOf (W := 2) (rmD l Z a0 hw [] x3 h10 n0 Z10) hZ (hw _ (List.mem_of_getElem? (i := 4) rfl)) (hw _ (List.mem_of_getElem? (i := 3) rfl)) (by decide) (by decide)) (g := (mkF m 33 #[.val (.int x0), .val (.int x1), .val (.int x2), .val (.int x3), .val (.int x4), .val (.ref b1), .unset, .unset, .unset] [(.int x3), (.int (3 : Int32)), (.ref b1)])) rfl (by rw [hml]; rfl) (argsL := [(.int x3)]) (rest := [(.int (3 : Int32)), (.ref b1)]) (lenOf pd_0 rfl) rfl (by show 2 * 0 + _ ≤ _; exact Nat.le_of_eq rfl) (hb hby at_33) (fun _ _ => ⟨rfl, e10, (by decide : 1 + 0 ≤ _), (by decide : 4 + 0 ≤ _)⟩)
  dsimp only [Pt.U, Pt.locs, Pt.cells, Pt.slots] at X11 l11 y11 z11 st11 hQ11
  subst l11 y11 z11
  obtain ⟨cc11, rfl, N11q, e11⟩ := hQ11
  have N11 := Fr.app N10 N11q
  refine own_go st11 ?_
  show own_G p e below s _ _ _ (T11.setTop (mkF m 36 #[.val (.int x0), .val (.int x1), .val (.int x2), .val (.int x3), .val (.int x4), .val (.ref b1), .unset, .unset, .unset] [(.int cc11), (.int (3 : Int32)), (.ref b1)]))
  have Vc12 := V10_b1
  obtain ⟨cl12, Ar12, q12, S12, M12, H12, G12⟩ := Vc12
  have hin12 := inb_of (j := (3 : Int32)) S12 ⟨(by decide), (by decide)⟩
  obtain ⟨T13, h13, X13, e13, W13, st13⟩ := stC X11 hx hZ e11 Ar12 (j := (3 : Int32)) hin12 (g := (mkF m 36 #[.val (.int x0), .val (.int x1), .val (.int x2), .val (.int x3), .val (.int x4), .val (.ref b1), .unset, .unset, .unset] [(.int cc11), (.int (3 : Int32)), (.ref b1)])) rfl rfl (hb hby at_36)
  refine own_go st13 ?_
  have V13_b1 : Arv Z h13 b1 k1 .char (4 : Int32) [(.int (nar .char cc2)), (.int (nar .char cc5)), (.int (nar .char cc8)), (.int (nar .char cc11))] (.int (0 : Int32)) := Arv.set Ar12 q12 S12 M12 H12 G12 (fits_nar_char _) W13 3 rfl (Nat.le_of_ble_eq_true rfl)
  have Z13 : n0 ≤ h13.size := by rw [W13.size]; exact Z10
  have N13 := Fr.snoc X13 N11 g_b1
  show own_G p e below s _ _ _ (T13.setTop (mkF m 37 #[.val (.int x0), .val (.int x1), .val (.int x2), .val (.int x3), .val (.int x4), .val (.ref b1), .unset, .unset, .unset] []))
  refine own_go (fun _ k => XS.iload X13.here hx rfl (hb hby at_37) rfl k) ?_
  show own_G p e below s _ _ _ (T13.setTop (mkF m 39 #[.val (.int x0), .val (.int x1), .val (.int x2), .val (.int x3), .val (.int x4), .val (.ref b1), .unset, .unset, .unset] [(.int x4)]))
  refine own_go (fun _ k => XS.bipush X13.here hx rfl (hb hby at_39) k) ?_
  show own_G p e below s _ _ _ (T13.setTop (mkF m 41 #[.val (.int x0), .val (.int x1), .val (.int x2), .val (.int x3), .val (.int x4), .val (.ref b1), .unset, .unset, .unset] [(.int (7 : Int32)), (.int x4)]))
  refine own_go (fun _ k => XS.iand X13.here hx rfl (hb hby at_41) rfl k) ?_
  show own_G p e below s _ _ _ (T13.setTop (mkF m 42 #[.val (.int x0), .val (.int x1), .val (.int x2), .val (.int x3), .val (.int x4), .val (.ref b1), .unset, .unset, .unset] [(.int (x4 &&& (7 : Int32)))]))
  refine own_go (fun _ k => XS.iconst X13.here hx rfl (hb hby at_42) k) ?_
  show own_G p e below s _ _ _ (T13.setTop (mkF m 43 #[.val (.int x0), .val (.int x1), .val (.int x2), .val (.int x3), .val (.int x4), .val (.ref b1), .unset, .unset, .unset] [(.int (5 : Int32)), (.int (x4 &&& (7 : Int32)))]))
  refine own_go (fun _ k => iremM X13 hx rfl (hb hby at_43) rfl (by decide) k) ?_
  show own_G p e below s _ _ _ (T13.setTop (mkF m 44 #[.val (.int x0), .val (.int x1), .val (.int x2), .val (.int x3), .val (.int x4), .val (.ref b1), .unset, .unset, .unset] [(.int ((x4 &&& (7 : Int32)) % (5 : Int32)))]))
  rw [eS]
  show own_G p e below s _ _ _ (T13.setTop (mkF m 44 #[.val (.int x0), .val (.int x1), .val (.int x2), .val (.int x3), .val (.int x4), .val (.ref b1), .unset, .unset, .unset] [(.int (Int32.ofNat S))]))
  refine own_go (fun _ k => XS.istore X13.here hx rfl (hb hby at_44) rfl (l' := #[.val (.int x0), .val (.int x1), .val (.int x2), .val (.int x3), .val (.int x4), .val (.ref b1), .val (.int (Int32.ofNat S)), .unset, .unset]) rfl k) ?_
  show own_G p e below s _ _ _ (T13.setTop (mkF m 46 #[.val (.int x0), .val (.int x1), .val (.int x2), .val (.int x3), .val (.int x4), .val (.ref b1), .val (.int (Int32.ofNat S)), .unset, .unset] []))
  refine own_go (fun _ k => XS.iload X13.here hx rfl (hb hby at_46) rfl k) ?_
  show own_G p e below s _ _ _ (T13.setTop (mkF m 48 #[.val (.int x0), .val (.int x1), .val (.int x2), .val (.int x3), .val (.int x4), .val (.ref b1), .val (.int (Int32.ofNat S)), .unset, .unset] [(.int x4)]))
  refine own_go (fun _ k => XS.iconst X13.here hx rfl (hb hby at_48) k) ?_
  show own_G p e below s _ _ _ (T13.setTop (mkF m 49 #[.val (.int x0), .val (.int x1), .val (.int x2), .val (.int x3), .val (.int x4), .val (.ref b1), .val (.int (Int32.ofNat S)), .unset, .unset] [(.int (3 : Int32)), (.int x4)]))
  refine own_go (fun _ k => XS.iushr X13.here hx rfl (hb hby at_49) rfl k) ?_
  show own_G p e below s _ _ _ (T13.setTop (mkF m 50 #[.val (.int x0), .val (.int x1), .val (.int x2), .val (.int x3), .val (.int x4), .val (.ref b1), .val (.int (Int32.ofNat S)), .unset, .unset] [(.int ((x4.toUInt32 >>> ((3 : Int32) &&& 31).toUInt32).toInt32))]))
  refine own_go (fun _ k => XS.bipush X13.here hx rfl (hb hby at_50) k) ?_
  show own_G p e below s _ _ _ (T13.setTop (mkF m 52 #[.val (.int x0), .val (.int x1), .val (.int x2), .val (.int x3), .val (.int x4), .val (.ref b1), .val (.int (Int32.ofNat S)), .unset, .unset] [(.int (7 : Int32)), (.int ((x4.toUInt32 >>> ((3 : Int32) &&& 31).toUInt32).toInt32))]))
  refine own_go (fun _ k => XS.iand X13.here hx rfl (hb hby at_52) rfl k) ?_
  show own_G p e below s _ _ _ (T13.setTop (mkF m 53 #[.val (.int x0), .val (.int x1), .val (.int x2), .val (.int x3), .val (.int x4), .val (.ref b1), .val (.int (Int32.ofNat S)), .unset, .unset] [(.int (((x4.toUInt32 >>> ((3 : Int32) &&& 31).toUInt32).toInt32) &&& (7 : Int32)))]))
  refine own_go (fun _ k => XS.iconst X13.here hx rfl (hb hby at_53) k) ?_
  show own_G p e below s _ _ _ (T13.setTop (mkF m 54 #[.val (.int x0), .val (.int x1), .val (.int x2), .val (.int x3), .val (.int x4), .val (.ref b1), .val (.int (Int32.ofNat S)), .unset, .unset] [(.int (5 : Int32)), (.int (((x4.toUInt32 >>> ((3 : Int32) &&& 31).toUInt32).toInt32) &&& (7 : Int32)))]))
  refine own_go (fun _ k => iremM X13 hx rfl (hb hby at_54) rfl (by decide) k) ?_
  show own_G p e below s _ _ _ (T13.setTop (mkF m 55 #[.val (.int x0), .val (.int x1), .val (.int x2), .val (.int x3), .val (.int x4), .val (.ref b1), .val (.int (Int32.ofNat S)), .unset, .unset] [(.int ((((x4.toUInt32 >>> ((3 : Int32) &&& 31).toUInt32).toInt32) &&& (7 : Int32)) % (5 : Int32)))]))
  rw [eE]
  show own_G p e below s _ _ _ (T13.setTop (mkF m 55 #[.val (.int x0), .val (.int x1), .val (.int x2), .val (.int x3), .val (.int x4), .val (.ref b1), .val (.int (Int32.ofNat S)), .unset, .unset] [(.int (Int32.ofNat E))]))
  refine own_go (fun _ k => XS.istore X13.here hx rfl (hb hby at_55) rfl (l' := #[.val (.int x0), .val (.int x1), .val (.int x2), .val (.int x3), .val (.int x4), .val (.ref b1), .val (.int (Int32.ofNat S)), .val (.int (Int32.ofNat E)), .unset]) rfl k) ?_
  show own_G p e below s _ _ _ (T13.setTop (mkF m 57 #[.val (.int x0), .val (.int x1), .val (.int x2), .val (.int x3), .val (.int x4), .val (.ref b1), .val (.int (Int32.ofNat S)), .val (.int (Int32.ofNat E)), .unset] []))
  refine own_go (fun _ k => XS.aload X13.here hx rfl (hb hby at_57) rfl rfl k) ?_
  show own_G p e below s _ _ _ (T13.setTop (mkF m 59 #[.val (.int x0), .val (.int x1), .val (.int x2), .val (.int x3), .val (.int x4), .val (.ref b1), .val (.int (Int32.ofNat S)), .val (.int (Int32.ofNat E)), .unset] [(.ref b1)]))
  refine own_go (fun _ k => XS.iconst X13.here hx rfl (hb hby at_59) k) ?_
  show own_G p e below s _ _ _ (T13.setTop (mkF m 60 #[.val (.int x0), .val (.int x1), .val (.int x2), .val (.int x3), .val (.int x4), .val (.ref b1), .val (.int (Int32.ofNat S)), .val (.int (Int32.ofNat E)), .unset] [(.int (0 : Int32)), (.ref b1)]))
  have Vc14 := V13_b1
  obtain ⟨cl14, Ar14, q14, S14, M14, H14, G14⟩ := Vc14
  have hin14 := inb_of (j := (0 : Int32)) S14 ⟨(by decide), (by decide)⟩
  have hat14 := H14.at hin14 (v := (.int (nar .char cc2))) rfl
  refine own_go (X13.caload hx (j := (0 : Int32)) (v := (.int (nar .char cc2))) (by rw [e13]; exact Ar14.1) (State.isArrayOf_alike hZ.alike Ar14.2.1) Ar14.2.2 hin14 hat14 (g := (mkF m 60 #[.val (.int x0), .val (.int x1), .val (.int x2), .val (.int x3), .val (.int x4), .val (.ref b1), .val (.int (Int32.ofNat S)), .val (.int (Int32.ofNat E)), .unset] [(.int (0 : Int32)), (.ref b1)])) rfl rfl (hb hby at_60)) ?_
  show own_G p e below s _ _ _ (T13.setTop (mkF m 61 #[.val (.int x0), .val (.int x1), .val (.int x2), .val (.int x3), .val (.int x4), .val (.ref b1), .val (.int (Int32.ofNat S)), .val (.int (Int32.ofNat E)), .unset] [(.int (nar .char cc2))]))
  refine own_go (fun _ k => XS.iconst X13.here hx rfl (hb hby at_61) k) ?_
  show own_G p e below s _ _ _ (T13.setTop (mkF m 62 #[.val (.int x0), .val (.int x1), .val (.int x2), .val (.int x3), .val (.int x4), .val (.ref b1), .val (.int (Int32.ofNat S)), .val (.int (Int32.ofNat E)), .unset] [(.int (0 : Int32)), (.int (nar .char cc2))]))
  refine own_go (fun _ k => XS.iload X13.here hx rfl (hb hby at_62) rfl k) ?_
  show own_G p e below s _ _ _ (T13.setTop (mkF m 64 #[.val (.int x0), .val (.int x1), .val (.int x2), .val (.int x3), .val (.int x4), .val (.ref b1), .val (.int (Int32.ofNat S)), .val (.int (Int32.ofNat E)), .unset] [(.int (Int32.ofNat S)), (.int (0 : Int32)), (.int (nar .char cc2))]))
  refine own_go (fun _ k => XS.iload X13.here hx rfl (hb hby at_64) rfl k) ?_
  show own_G p e below s _ _ _ (T13.setTop (mkF m 66 #[.val (.int x0), .val (.int x1), .val (.int x2), .val (.int x3), .val (.int x4), .val (.ref b1), .val (.int (Int32.ofNat S)), .val (.int (Int32.ofNat E)), .unset] [(.int (Int32.ofNat E)), (.int (Int32.ofNat S)), (.int (0 : Int32)), (.int (nar .char cc2))]))
  obtain ⟨_, _, ⟨T15, L15, k15, n15⟩, -, X15, ⟨Lc15, hQ15, l15, y15, z15⟩, st15⟩ := Jvm.LawKit.callS X13 hx (y := (⟨"com/example/accordant/accordant/document/WhiteSpaceIsBlankPinLaw", "spoils", "(CIII)Z"⟩ : MethodName)) hown (mvT hZ (hw _ (List.mem_of_getElem? (i := 7) rfl))) (mvT hZ (hw _ (List.mem_of_getElem? (i := 8) rfl))) (mvT hZ (hw _ (List.mem_of_getElem? (i := 3) rfl))) (mvT hZ (hw _ (List.mem_of_getElem? (i := 9) rfl))) (by decide) (backOf (W := 0) (rmS l Z a0 hw [] (nar .char cc2) (0 : Int32) (Int32.ofNat S) (Int32.ofNat E) h13 n0 Z13) hZ (hw _ (List.mem_of_getElem? (i := 9) rfl)) (hw _ (List.mem_of_getElem? (i := 3) rfl)) (by decide) (by decide)) (g := (mkF m 66 #[.val (.int x0), .val (.int x1), .val (.int x2), .val (.int x3), .val (.int x4), .val (.ref b1), .val (.int (Int32.ofNat S)), .val (.int (Int32.ofNat E)), .unset] [(.int (Int32.ofNat E)), (.int (Int32.ofNat S)), (.int (0 : Int32)), (.int (nar .char cc2))])) rfl (by rw [hml]; rfl) (argsL := [(.int (nar .char cc2)), (.int (0 : Int32)), (.int (Int32.ofNat S)), (.int (Int32.ofNat E))]) (rest := []) (lenOf pd_1 rfl) rfl (by show 2 * 0 + _ ≤ _; exact Nat.le_of_eq rfl) (hb hby at_66) (fun _ _ => ⟨rfl, e13, (by decide : 1 + 0 ≤ _), (by decide : 4 + 0 ≤ _)⟩)
  dsimp only [Pt.U, Pt.locs, Pt.cells, Pt.slots] at X15 l15 y15 z15 st15 hQ15
  subst l15 y15 z15
  obtain ⟨rfl, N15q, e15⟩ := hQ15
  have N15 := Fr.app N13 N15q
  refine own_go st15 ?_
  show own_G p e below s _ _ _ (T15.setTop (mkF m 69 #[.val (.int x0), .val (.int x1), .val (.int x2), .val (.int x3), .val (.int x4), .val (.ref b1), .val (.int (Int32.ofNat S)), .val (.int (Int32.ofNat E)), .unset] [(.int (if ¬ ((0 : Int32) < Int32.ofNat S) ∧ (0 : Int32) < Int32.ofNat E ∧ 32 < (nar .char cc2) then (1 : Int32) else 0))]))
  refine own_if_ne X15 hx (pc := 69) (pc' := 121) (hb hby at_69) (by decide) (by decide) (fun hc69 => ?_) (fun hc69 => ?_)
  · show own_G p e below s _ _ _ (T15.setTop (mkF m 121 #[.val (.int x0), .val (.int x1), .val (.int x2), .val (.int x3), .val (.int x4), .val (.ref b1), .val (.int (Int32.ofNat S)), .val (.int (Int32.ofNat E)), .unset] []))
    refine own_go (fun _ k => XS.iconst X15.here hx rfl (hb hby at_121) k) ?_
    show own_G p e below s _ _ _ (T15.setTop (mkF m 122 #[.val (.int x0), .val (.int x1), .val (.int x2), .val (.int x3), .val (.int x4), .val (.ref b1), .val (.int (Int32.ofNat S)), .val (.int (Int32.ofNat E)), .unset] [(.int (0 : Int32))]))
    refine own_go (fun _ k => XS.istore X15.here hx rfl (hb hby at_122) rfl (l' := #[.val (.int x0), .val (.int x1), .val (.int x2), .val (.int x3), .val (.int x4), .val (.ref b1), .val (.int (Int32.ofNat S)), .val (.int (Int32.ofNat E)), .val (.int (0 : Int32))]) rfl k) ?_
    show own_G p e below s _ _ _ (T15.setTop (mkF m 124 #[.val (.int x0), .val (.int x1), .val (.int x2), .val (.int x3), .val (.int x4), .val (.ref b1), .val (.int (Int32.ofNat S)), .val (.int (Int32.ofNat E)), .val (.int (0 : Int32))] []))
    refine own_go (fun _ k => XS.aload X15.here hx rfl (hb hby at_124) rfl rfl k) ?_
    show own_G p e below s _ _ _ (T15.setTop (mkF m 126 #[.val (.int x0), .val (.int x1), .val (.int x2), .val (.int x3), .val (.int x4), .val (.ref b1), .val (.int (Int32.ofNat S)), .val (.int (Int32.ofNat E)), .val (.int (0 : Int32))] [(.ref b1)]))
    refine own_go (fun _ k => XS.iload X15.here hx rfl (hb hby at_126) rfl k) ?_
    show own_G p e below s _ _ _ (T15.setTop (mkF m 128 #[.val (.int x0), .val (.int x1), .val (.int x2), .val (.int x3), .val (.int x4), .val (.ref b1), .val (.int (Int32.ofNat S)), .val (.int (Int32.ofNat E)), .val (.int (0 : Int32))] [(.int (Int32.ofNat S)), (.ref b1)]))
    refine own_go (fun _ k => XS.iload X15.here hx rfl (hb hby at_128) rfl k) ?_
    show own_G p e below s _ _ _ (T15.setTop (mkF m 130 #[.val (.int x0), .val (.int x1), .val (.int x2), .val (.int x3), .val (.int x4), .val (.ref b1), .val (.int (Int32.ofNat S)), .val (.int (Int32.ofNat E)), .val (.int (0 : Int32))] [(.int (Int32.ofNat E)), (.int (Int32.ofNat S)), (.ref b1)]))
    obtain ⟨_, _, ⟨T16, L16, k16, n16⟩, -, X16, ⟨Lc16, hQ16, l16, y16, z16⟩, st16⟩ := Jvm.LawKit.callS X15 hx (y := (⟨"com/example/accordant/accordant/document/WhiteSpace", "isBlank", "([CII)Z"⟩ : MethodName)) hown (mvT hZ (hw _ (List.mem_of_getElem? (i := 10) rfl))) (mvT hZ (hw _ (List.mem_of_getElem? (i := 11) rfl))) (mvT hZ (hw _ (List.mem_of_getElem? (i := 12) rfl))) (mvT hZ (hw _ (List.mem_of_getElem? (i := 13) rfl))) (by decide) (backOf (W := 0) (rmB l Z a0 hw [] b1 k1 [(.int (nar .char cc2)), (.int (nar .char cc5)), (.int (nar .char cc8)), (.int (nar .char cc11))] (own_f (nar .char cc2) (nar .char cc5) (nar .char cc8) (nar .char cc11)) S E h13 n0 Z13 V13_b1 (own_fat (nar .char cc2) (nar .char cc5) (nar .char cc8) (nar .char cc11)) hS hE) hZ (hw _ (List.mem_of_getElem? (i := 13) rfl)) (hw _ (List.mem_of_getElem? (i := 12) rfl)) (by decide) (by decide)) (g := (mkF m 130 #[.val (.int x0), .val (.int x1), .val (.int x2), .val (.int x3), .val (.int x4), .val (.ref b1), .val (.int (Int32.ofNat S)), .val (.int (Int32.ofNat E)), .val (.int (0 : Int32))] [(.int (Int32.ofNat E)), (.int (Int32.ofNat S)), (.ref b1)])) rfl (by rw [hml]; rfl) (argsL := [(.ref b1), (.int (Int32.ofNat S)), (.int (Int32.ofNat E))]) (rest := []) (lenOf pd_2 rfl) rfl (by show 2 * 0 + _ ≤ _; exact Nat.le_of_eq rfl) (hb hby at_130) (fun _ _ => ⟨rfl, e15, (by decide : 1 + 0 ≤ _), (by decide : 4 + 0 ≤ _)⟩)
    dsimp only [Pt.U, Pt.locs, Pt.cells, Pt.slots] at X16 l16 y16 z16 st16 hQ16
    subst l16 y16 z16
    obtain ⟨rfl, N16q, e16⟩ := hQ16
    have N16 := Fr.app N15 N16q
    refine own_go st16 ?_
    show own_G p e below s _ _ _ (T16.setTop (mkF m 133 #[.val (.int x0), .val (.int x1), .val (.int x2), .val (.int x3), .val (.int x4), .val (.ref b1), .val (.int (Int32.ofNat S)), .val (.int (Int32.ofNat E)), .val (.int (0 : Int32))] [(.int (own_bl (own_f (nar .char cc2) (nar .char cc5) (nar .char cc8) (nar .char cc11)) (E - S) S))]))
    refine own_go (fun _ k => XS.iload X16.here hx rfl (hb hby at_133) rfl k) ?_
    show own_G p e below s _ _ _ (T16.setTop (mkF m 135 #[.val (.int x0), .val (.int x1), .val (.int x2), .val (.int x3), .val (.int x4), .val (.ref b1), .val (.int (Int32.ofNat S)), .val (.int (Int32.ofNat E)), .val (.int (0 : Int32))] [(.int (0 : Int32)), (.int (own_bl (own_f (nar .char cc2) (nar .char cc5) (nar .char cc8) (nar .char cc11)) (E - S) S))]))
    refine own_ic_neN X16 hx (pc := 135) (hb hby at_135) (own_hit (own_f (nar .char cc2) (nar .char cc5) (nar .char cc8) (nar .char cc11)) hS hE (j := 0) (by decide) (own_y hc69)) ?_
    show own_G p e below s _ _ _ (T16.setTop (mkF m 138 #[.val (.int x0), .val (.int x1), .val (.int x2), .val (.int x3), .val (.int x4), .val (.ref b1), .val (.int (Int32.ofNat S)), .val (.int (Int32.ofNat E)), .val (.int (0 : Int32))] []))
    refine own_go (fun _ k => XS.iconst X16.here hx rfl (hb hby at_138) k) ?_
    show own_G p e below s _ _ _ (T16.setTop (mkF m 139 #[.val (.int x0), .val (.int x1), .val (.int x2), .val (.int x3), .val (.int x4), .val (.ref b1), .val (.int (Int32.ofNat S)), .val (.int (Int32.ofNat E)), .val (.int (0 : Int32))] [(.int (1 : Int32))]))
    refine own_go (fun _ k => XS.goto X16.here hx rfl (pc0 := 139) (pc' := 143) rfl (hb hby at_139) (by decide) (by decide) k) ?_
    show own_G p e below s _ _ _ (T16.setTop (mkF m 143 #[.val (.int x0), .val (.int x1), .val (.int x2), .val (.int x3), .val (.int x4), .val (.ref b1), .val (.int (Int32.ofNat S)), .val (.int (Int32.ofNat E)), .val (.int (0 : Int32))] [(.int (1 : Int32))]))
    exact own_retN (t := .boolean) (ht := by simp) X16 hx Bd.returns (BodyLoose.notSynchronized Bd) (hb hby at_143) e16 ⟨rfl, N16⟩ (by decide) (by decide)
  · show own_G p e below s _ _ _ (T15.setTop (mkF m 72 #[.val (.int x0), .val (.int x1), .val (.int x2), .val (.int x3), .val (.int x4), .val (.ref b1), .val (.int (Int32.ofNat S)), .val (.int (Int32.ofNat E)), .unset] []))
    refine own_go (fun _ k => XS.aload X15.here hx rfl (hb hby at_72) rfl rfl k) ?_
    show own_G p e below s _ _ _ (T15.setTop (mkF m 74 #[.val (.int x0), .val (.int x1), .val (.int x2), .val (.int x3), .val (.int x4), .val (.ref b1), .val (.int (Int32.ofNat S)), .val (.int (Int32.ofNat E)), .unset] [(.ref b1)]))
    refine own_go (fun _ k => XS.iconst X15.here hx rfl (hb hby at_74) k) ?_
    show own_G p e below s _ _ _ (T15.setTop (mkF m 75 #[.val (.int x0), .val (.int x1), .val (.int x2), .val (.int x3), .val (.int x4), .val (.ref b1), .val (.int (Int32.ofNat S)), .val (.int (Int32.ofNat E)), .unset] [(.int (1 : Int32)), (.ref b1)]))
    have Vc17 := V13_b1
    obtain ⟨cl17, Ar17, q17, S17, M17, H17, G17⟩ := Vc17
    have hin17 := inb_of (j := (1 : Int32)) S17 ⟨(by decide), (by decide)⟩
    have hat17 := H17.at hin17 (v := (.int (nar .char cc5))) rfl
    refine own_go (X15.caload hx (j := (1 : Int32)) (v := (.int (nar .char cc5))) (by rw [e15]; exact Ar17.1) (State.isArrayOf_alike hZ.alike Ar17.2.1) Ar17.2.2 hin17 hat17 (g := (mkF m 75 #[.val (.int x0), .val (.int x1), .val (.int x2), .val (.int x3), .val (.int x4), .val (.ref b1), .val (.int (Int32.ofNat S)), .val (.int (Int32.ofNat E)), .unset] [(.int (1 : Int32)), (.ref b1)])) rfl rfl (hb hby at_75)) ?_
    show own_G p e below s _ _ _ (T15.setTop (mkF m 76 #[.val (.int x0), .val (.int x1), .val (.int x2), .val (.int x3), .val (.int x4), .val (.ref b1), .val (.int (Int32.ofNat S)), .val (.int (Int32.ofNat E)), .unset] [(.int (nar .char cc5))]))
    refine own_go (fun _ k => XS.iconst X15.here hx rfl (hb hby at_76) k) ?_
    show own_G p e below s _ _ _ (T15.setTop (mkF m 77 #[.val (.int x0), .val (.int x1), .val (.int x2), .val (.int x3), .val (.int x4), .val (.ref b1), .val (.int (Int32.ofNat S)), .val (.int (Int32.ofNat E)), .unset] [(.int (1 : Int32)), (.int (nar .char cc5))]))
    refine own_go (fun _ k => XS.iload X15.here hx rfl (hb hby at_77) rfl k) ?_
    show own_G p e below s _ _ _ (T15.setTop (mkF m 79 #[.val (.int x0), .val (.int x1), .val (.int x2), .val (.int x3), .val (.int x4), .val (.ref b1), .val (.int (Int32.ofNat S)), .val (.int (Int32.ofNat E)), .unset] [(.int (Int32.ofNat S)), (.int (1 : Int32)), (.int (nar .char cc5))]))
    refine own_go (fun _ k => XS.iload X15.here hx rfl (hb hby at_79) rfl k) ?_
    show own_G p e below s _ _ _ (T15.setTop (mkF m 81 #[.val (.int x0), .val (.int x1), .val (.int x2), .val (.int x3), .val (.int x4), .val (.ref b1), .val (.int (Int32.ofNat S)), .val (.int (Int32.ofNat E)), .unset] [(.int (Int32.ofNat E)), (.int (Int32.ofNat S)), (.int (1 : Int32)), (.int (nar .char cc5))]))
    obtain ⟨_, _, ⟨T18, L18, k18, n18⟩, -, X18, ⟨Lc18, hQ18, l18, y18, z18⟩, st18⟩ := Jvm.LawKit.callS X15 hx (y := (⟨"com/example/accordant/accordant/document/WhiteSpaceIsBlankPinLaw", "spoils", "(CIII)Z"⟩ : MethodName)) hown (mvT hZ (hw _ (List.mem_of_getElem? (i := 7) rfl))) (mvT hZ (hw _ (List.mem_of_getElem? (i := 8) rfl))) (mvT hZ (hw _ (List.mem_of_getElem? (i := 3) rfl))) (mvT hZ (hw _ (List.mem_of_getElem? (i := 9) rfl))) (by decide) (backOf (W := 0) (rmS l Z a0 hw [] (nar .char cc5) (1 : Int32) (Int32.ofNat S) (Int32.ofNat E) h13 n0 Z13) hZ (hw _ (List.mem_of_getElem? (i := 9) rfl)) (hw _ (List.mem_of_getElem? (i := 3) rfl)) (by decide) (by decide)) (g := (mkF m 81 #[.val (.int x0), .val (.int x1), .val (.int x2), .val (.int x3), .val (.int x4), .val (.ref b1), .val (.int (Int32.ofNat S)), .val (.int (Int32.ofNat E)), .unset] [(.int (Int32.ofNat E)), (.int (Int32.ofNat S)), (.int (1 : Int32)), (.int (nar .char cc5))])) rfl (by rw [hml]; rfl) (argsL := [(.int (nar .char cc5)), (.int (1 : Int32)), (.int (Int32.ofNat S)), (.int (Int32.ofNat E))]) (rest := []) (lenOf pd_1 rfl) rfl (by show 2 * 0 + _ ≤ _; exact Nat.le_of_eq rfl) (hb hby at_81) (fun _ _ => ⟨rfl, e15, (by decide : 1 + 0 ≤ _), (by decide : 4 + 0 ≤ _)⟩)
    dsimp only [Pt.U, Pt.locs, Pt.cells, Pt.slots] at X18 l18 y18 z18 st18 hQ18
    subst l18 y18 z18
    obtain ⟨rfl, N18q, e18⟩ := hQ18
    have N18 := Fr.app N15 N18q
    refine own_go st18 ?_
    show own_G p e below s _ _ _ (T18.setTop (mkF m 84 #[.val (.int x0), .val (.int x1), .val (.int x2), .val (.int x3), .val (.int x4), .val (.ref b1), .val (.int (Int32.ofNat S)), .val (.int (Int32.ofNat E)), .unset] [(.int (if ¬ ((1 : Int32) < Int32.ofNat S) ∧ (1 : Int32) < Int32.ofNat E ∧ 32 < (nar .char cc5) then (1 : Int32) else 0))]))
    refine own_if_ne X18 hx (pc := 84) (pc' := 121) (hb hby at_84) (by decide) (by decide) (fun hc84 => ?_) (fun hc84 => ?_)
    · show own_G p e below s _ _ _ (T18.setTop (mkF m 121 #[.val (.int x0), .val (.int x1), .val (.int x2), .val (.int x3), .val (.int x4), .val (.ref b1), .val (.int (Int32.ofNat S)), .val (.int (Int32.ofNat E)), .unset] []))
      refine own_go (fun _ k => XS.iconst X18.here hx rfl (hb hby at_121) k) ?_
      show own_G p e below s _ _ _ (T18.setTop (mkF m 122 #[.val (.int x0), .val (.int x1), .val (.int x2), .val (.int x3), .val (.int x4), .val (.ref b1), .val (.int (Int32.ofNat S)), .val (.int (Int32.ofNat E)), .unset] [(.int (0 : Int32))]))
      refine own_go (fun _ k => XS.istore X18.here hx rfl (hb hby at_122) rfl (l' := #[.val (.int x0), .val (.int x1), .val (.int x2), .val (.int x3), .val (.int x4), .val (.ref b1), .val (.int (Int32.ofNat S)), .val (.int (Int32.ofNat E)), .val (.int (0 : Int32))]) rfl k) ?_
      show own_G p e below s _ _ _ (T18.setTop (mkF m 124 #[.val (.int x0), .val (.int x1), .val (.int x2), .val (.int x3), .val (.int x4), .val (.ref b1), .val (.int (Int32.ofNat S)), .val (.int (Int32.ofNat E)), .val (.int (0 : Int32))] []))
      refine own_go (fun _ k => XS.aload X18.here hx rfl (hb hby at_124) rfl rfl k) ?_
      show own_G p e below s _ _ _ (T18.setTop (mkF m 126 #[.val (.int x0), .val (.int x1), .val (.int x2), .val (.int x3), .val (.int x4), .val (.ref b1), .val (.int (Int32.ofNat S)), .val (.int (Int32.ofNat E)), .val (.int (0 : Int32))] [(.ref b1)]))
      refine own_go (fun _ k => XS.iload X18.here hx rfl (hb hby at_126) rfl k) ?_
      show own_G p e below s _ _ _ (T18.setTop (mkF m 128 #[.val (.int x0), .val (.int x1), .val (.int x2), .val (.int x3), .val (.int x4), .val (.ref b1), .val (.int (Int32.ofNat S)), .val (.int (Int32.ofNat E)), .val (.int (0 : Int32))] [(.int (Int32.ofNat S)), (.ref b1)]))
      refine own_go (fun _ k => XS.iload X18.here hx rfl (hb hby at_128) rfl k) ?_
      show own_G p e below s _ _ _ (T18.setTop (mkF m 130 #[.val (.int x0), .val (.int x1), .val (.int x2), .val (.int x3), .val (.int x4), .val (.ref b1), .val (.int (Int32.ofNat S)), .val (.int (Int32.ofNat E)), .val (.int (0 : Int32))] [(.int (Int32.ofNat E)), (.int (Int32.ofNat S)), (.ref b1)]))
      obtain ⟨_, _, ⟨T19, L19, k19, n19⟩, -, X19, ⟨Lc19, hQ19, l19, y19, z19⟩, st19⟩ := Jvm.LawKit.callS X18 hx (y := (⟨"com/example/accordant/accordant/document/WhiteSpace", "isBlank", "([CII)Z"⟩ : MethodName)) hown (mvT hZ (hw _ (List.mem_of_getElem? (i := 10) rfl))) (mvT hZ (hw _ (List.mem_of_getElem? (i := 11) rfl))) (mvT hZ (hw _ (List.mem_of_getElem? (i := 12) rfl))) (mvT hZ (hw _ (List.mem_of_getElem? (i := 13) rfl))) (by decide) (backOf (W := 0) (rmB l Z a0 hw [] b1 k1 [(.int (nar .char cc2)), (.int (nar .char cc5)), (.int (nar .char cc8)), (.int (nar .char cc11))] (own_f (nar .char cc2) (nar .char cc5) (nar .char cc8) (nar .char cc11)) S E h13 n0 Z13 V13_b1 (own_fat (nar .char cc2) (nar .char cc5) (nar .char cc8) (nar .char cc11)) hS hE) hZ (hw _ (List.mem_of_getElem? (i := 13) rfl)) (hw _ (List.mem_of_getElem? (i := 12) rfl)) (by decide) (by decide)) (g := (mkF m 130 #[.val (.int x0), .val (.int x1), .val (.int x2), .val (.int x3), .val (.int x4), .val (.ref b1), .val (.int (Int32.ofNat S)), .val (.int (Int32.ofNat E)), .val (.int (0 : Int32))] [(.int (Int32.ofNat E)), (.int (Int32.ofNat S)), (.ref b1)])) rfl (by rw [hml]; rfl) (argsL := [(.ref b1), (.int (Int32.ofNat S)), (.int (Int32.ofNat E))]) (rest := []) (lenOf pd_2 rfl) rfl (by show 2 * 0 + _ ≤ _; exact Nat.le_of_eq rfl) (hb hby at_130) (fun _ _ => ⟨rfl, e18, (by decide : 1 + 0 ≤ _), (by decide : 4 + 0 ≤ _)⟩)
      dsimp only [Pt.U, Pt.locs, Pt.cells, Pt.slots] at X19 l19 y19 z19 st19 hQ19
      subst l19 y19 z19
      obtain ⟨rfl, N19q, e19⟩ := hQ19
      have N19 := Fr.app N18 N19q
      refine own_go st19 ?_
      show own_G p e below s _ _ _ (T19.setTop (mkF m 133 #[.val (.int x0), .val (.int x1), .val (.int x2), .val (.int x3), .val (.int x4), .val (.ref b1), .val (.int (Int32.ofNat S)), .val (.int (Int32.ofNat E)), .val (.int (0 : Int32))] [(.int (own_bl (own_f (nar .char cc2) (nar .char cc5) (nar .char cc8) (nar .char cc11)) (E - S) S))]))
      refine own_go (fun _ k => XS.iload X19.here hx rfl (hb hby at_133) rfl k) ?_
      show own_G p e below s _ _ _ (T19.setTop (mkF m 135 #[.val (.int x0), .val (.int x1), .val (.int x2), .val (.int x3), .val (.int x4), .val (.ref b1), .val (.int (Int32.ofNat S)), .val (.int (Int32.ofNat E)), .val (.int (0 : Int32))] [(.int (0 : Int32)), (.int (own_bl (own_f (nar .char cc2) (nar .char cc5) (nar .char cc8) (nar .char cc11)) (E - S) S))]))
      refine own_ic_neN X19 hx (pc := 135) (hb hby at_135) (own_hit (own_f (nar .char cc2) (nar .char cc5) (nar .char cc8) (nar .char cc11)) hS hE (j := 1) (by decide) (own_y hc84)) ?_
      show own_G p e below s _ _ _ (T19.setTop (mkF m 138 #[.val (.int x0), .val (.int x1), .val (.int x2), .val (.int x3), .val (.int x4), .val (.ref b1), .val (.int (Int32.ofNat S)), .val (.int (Int32.ofNat E)), .val (.int (0 : Int32))] []))
      refine own_go (fun _ k => XS.iconst X19.here hx rfl (hb hby at_138) k) ?_
      show own_G p e below s _ _ _ (T19.setTop (mkF m 139 #[.val (.int x0), .val (.int x1), .val (.int x2), .val (.int x3), .val (.int x4), .val (.ref b1), .val (.int (Int32.ofNat S)), .val (.int (Int32.ofNat E)), .val (.int (0 : Int32))] [(.int (1 : Int32))]))
      refine own_go (fun _ k => XS.goto X19.here hx rfl (pc0 := 139) (pc' := 143) rfl (hb hby at_139) (by decide) (by decide) k) ?_
      show own_G p e below s _ _ _ (T19.setTop (mkF m 143 #[.val (.int x0), .val (.int x1), .val (.int x2), .val (.int x3), .val (.int x4), .val (.ref b1), .val (.int (Int32.ofNat S)), .val (.int (Int32.ofNat E)), .val (.int (0 : Int32))] [(.int (1 : Int32))]))
      exact own_retN (t := .boolean) (ht := by simp) X19 hx Bd.returns (BodyLoose.notSynchronized Bd) (hb hby at_143) e19 ⟨rfl, N19⟩ (by decide) (by decide)
    · show own_G p e below s _ _ _ (T18.setTop (mkF m 87 #[.val (.int x0), .val (.int x1), .val (.int x2), .val (.int x3), .val (.int x4), .val (.ref b1), .val (.int (Int32.ofNat S)), .val (.int (Int32.ofNat E)), .unset] []))
      refine own_go (fun _ k => XS.aload X18.here hx rfl (hb hby at_87) rfl rfl k) ?_
      show own_G p e below s _ _ _ (T18.setTop (mkF m 89 #[.val (.int x0), .val (.int x1), .val (.int x2), .val (.int x3), .val (.int x4), .val (.ref b1), .val (.int (Int32.ofNat S)), .val (.int (Int32.ofNat E)), .unset] [(.ref b1)]))
      refine own_go (fun _ k => XS.iconst X18.here hx rfl (hb hby at_89) k) ?_
      show own_G p e below s _ _ _ (T18.setTop (mkF m 90 #[.val (.int x0), .val (.int x1), .val (.int x2), .val (.int x3), .val (.int x4), .val (.ref b1), .val (.int (Int32.ofNat S)), .val (.int (Int32.ofNat E)), .unset] [(.int (2 : Int32)), (.ref b1)]))
      have Vc20 := V13_b1
      obtain ⟨cl20, Ar20, q20, S20, M20, H20, G20⟩ := Vc20
      have hin20 := inb_of (j := (2 : Int32)) S20 ⟨(by decide), (by decide)⟩
      have hat20 := H20.at hin20 (v := (.int (nar .char cc8))) rfl
      refine own_go (X18.caload hx (j := (2 : Int32)) (v := (.int (nar .char cc8))) (by rw [e18]; exact Ar20.1) (State.isArrayOf_alike hZ.alike Ar20.2.1) Ar20.2.2 hin20 hat20 (g := (mkF m 90 #[.val (.int x0), .val (.int x1), .val (.int x2), .val (.int x3), .val (.int x4), .val (.ref b1), .val (.int (Int32.ofNat S)), .val (.int (Int32.ofNat E)), .unset] [(.int (2 : Int32)), (.ref b1)])) rfl rfl (hb hby at_90)) ?_
      show own_G p e below s _ _ _ (T18.setTop (mkF m 91 #[.val (.int x0), .val (.int x1), .val (.int x2), .val (.int x3), .val (.int x4), .val (.ref b1), .val (.int (Int32.ofNat S)), .val (.int (Int32.ofNat E)), .unset] [(.int (nar .char cc8))]))
      refine own_go (fun _ k => XS.iconst X18.here hx rfl (hb hby at_91) k) ?_
      show own_G p e below s _ _ _ (T18.setTop (mkF m 92 #[.val (.int x0), .val (.int x1), .val (.int x2), .val (.int x3), .val (.int x4), .val (.ref b1), .val (.int (Int32.ofNat S)), .val (.int (Int32.ofNat E)), .unset] [(.int (2 : Int32)), (.int (nar .char cc8))]))
      refine own_go (fun _ k => XS.iload X18.here hx rfl (hb hby at_92) rfl k) ?_
      show own_G p e below s _ _ _ (T18.setTop (mkF m 94 #[.val (.int x0), .val (.int x1), .val (.int x2), .val (.int x3), .val (.int x4), .val (.ref b1), .val (.int (Int32.ofNat S)), .val (.int (Int32.ofNat E)), .unset] [(.int (Int32.ofNat S)), (.int (2 : Int32)), (.int (nar .char cc8))]))
      refine own_go (fun _ k => XS.iload X18.here hx rfl (hb hby at_94) rfl k) ?_
      show own_G p e below s _ _ _ (T18.setTop (mkF m 96 #[.val (.int x0), .val (.int x1), .val (.int x2), .val (.int x3), .val (.int x4), .val (.ref b1), .val (.int (Int32.ofNat S)), .val (.int (Int32.ofNat E)), .unset] [(.int (Int32.ofNat E)), (.int (Int32.ofNat S)), (.int (2 : Int32)), (.int (nar .char cc8))]))
      obtain ⟨_, _, ⟨T21, L21, k21, n21⟩, -, X21, ⟨Lc21, hQ21, l21, y21, z21⟩, st21⟩ := Jvm.LawKit.callS X18 hx (y := (⟨"com/example/accordant/accordant/document/WhiteSpaceIsBlankPinLaw", "spoils", "(CIII)Z"⟩ : MethodName)) hown (mvT hZ (hw _ (List.mem_of_getElem? (i := 7) rfl))) (mvT hZ (hw _ (List.mem_of_getElem? (i := 8) rfl))) (mvT hZ (hw _ (List.mem_of_getElem? (i := 3) rfl))) (mvT hZ (hw _ (List.mem_of_getElem? (i := 9) rfl))) (by decide) (backOf (W := 0) (rmS l Z a0 hw [] (nar .char cc8) (2 : Int32) (Int32.ofNat S) (Int32.ofNat E) h13 n0 Z13) hZ (hw _ (List.mem_of_getElem? (i := 9) rfl)) (hw _ (List.mem_of_getElem? (i := 3) rfl)) (by decide) (by decide)) (g := (mkF m 96 #[.val (.int x0), .val (.int x1), .val (.int x2), .val (.int x3), .val (.int x4), .val (.ref b1), .val (.int (Int32.ofNat S)), .val (.int (Int32.ofNat E)), .unset] [(.int (Int32.ofNat E)), (.int (Int32.ofNat S)), (.int (2 : Int32)), (.int (nar .char cc8))])) rfl (by rw [hml]; rfl) (argsL := [(.int (nar .char cc8)), (.int (2 : Int32)), (.int (Int32.ofNat S)), (.int (Int32.ofNat E))]) (rest := []) (lenOf pd_1 rfl) rfl (by show 2 * 0 + _ ≤ _; exact Nat.le_of_eq rfl) (hb hby at_96) (fun _ _ => ⟨rfl, e18, (by decide : 1 + 0 ≤ _), (by decide : 4 + 0 ≤ _)⟩)
      dsimp only [Pt.U, Pt.locs, Pt.cells, Pt.slots] at X21 l21 y21 z21 st21 hQ21
      subst l21 y21 z21
      obtain ⟨rfl, N21q, e21⟩ := hQ21
      have N21 := Fr.app N18 N21q
      refine own_go st21 ?_
      show own_G p e below s _ _ _ (T21.setTop (mkF m 99 #[.val (.int x0), .val (.int x1), .val (.int x2), .val (.int x3), .val (.int x4), .val (.ref b1), .val (.int (Int32.ofNat S)), .val (.int (Int32.ofNat E)), .unset] [(.int (if ¬ ((2 : Int32) < Int32.ofNat S) ∧ (2 : Int32) < Int32.ofNat E ∧ 32 < (nar .char cc8) then (1 : Int32) else 0))]))
      refine own_if_ne X21 hx (pc := 99) (pc' := 121) (hb hby at_99) (by decide) (by decide) (fun hc99 => ?_) (fun hc99 => ?_)
      · show own_G p e below s _ _ _ (T21.setTop (mkF m 121 #[.val (.int x0), .val (.int x1), .val (.int x2), .val (.int x3), .val (.int x4), .val (.ref b1), .val (.int (Int32.ofNat S)), .val (.int (Int32.ofNat E)), .unset] []))
        refine own_go (fun _ k => XS.iconst X21.here hx rfl (hb hby at_121) k) ?_
        show own_G p e below s _ _ _ (T21.setTop (mkF m 122 #[.val (.int x0), .val (.int x1), .val (.int x2), .val (.int x3), .val (.int x4), .val (.ref b1), .val (.int (Int32.ofNat S)), .val (.int (Int32.ofNat E)), .unset] [(.int (0 : Int32))]))
        refine own_go (fun _ k => XS.istore X21.here hx rfl (hb hby at_122) rfl (l' := #[.val (.int x0), .val (.int x1), .val (.int x2), .val (.int x3), .val (.int x4), .val (.ref b1), .val (.int (Int32.ofNat S)), .val (.int (Int32.ofNat E)), .val (.int (0 : Int32))]) rfl k) ?_
        show own_G p e below s _ _ _ (T21.setTop (mkF m 124 #[.val (.int x0), .val (.int x1), .val (.int x2), .val (.int x3), .val (.int x4), .val (.ref b1), .val (.int (Int32.ofNat S)), .val (.int (Int32.ofNat E)), .val (.int (0 : Int32))] []))
        refine own_go (fun _ k => XS.aload X21.here hx rfl (hb hby at_124) rfl rfl k) ?_
        show own_G p e below s _ _ _ (T21.setTop (mkF m 126 #[.val (.int x0), .val (.int x1), .val (.int x2), .val (.int x3), .val (.int x4), .val (.ref b1), .val (.int (Int32.ofNat S)), .val (.int (Int32.ofNat E)), .val (.int (0 : Int32))] [(.ref b1)]))
        refine own_go (fun _ k => XS.iload X21.here hx rfl (hb hby at_126) rfl k) ?_
        show own_G p e below s _ _ _ (T21.setTop (mkF m 128 #[.val (.int x0), .val (.int x1), .val (.int x2), .val (.int x3), .val (.int x4), .val (.ref b1), .val (.int (Int32.ofNat S)), .val (.int (Int32.ofNat E)), .val (.int (0 : Int32))] [(.int (Int32.ofNat S)), (.ref b1)]))
        refine own_go (fun _ k => XS.iload X21.here hx rfl (hb hby at_128) rfl k) ?_
        show own_G p e below s _ _ _ (T21.setTop (mkF m 130 #[.val (.int x0), .val (.int x1), .val (.int x2), .val (.int x3), .val (.int x4), .val (.ref b1), .val (.int (Int32.ofNat S)), .val (.int (Int32.ofNat E)), .val (.int (0 : Int32))] [(.int (Int32.ofNat E)), (.int (Int32.ofNat S)), (.ref b1)]))
        obtain ⟨_, _, ⟨T22, L22, k22, n22⟩, -, X22, ⟨Lc22, hQ22, l22, y22, z22⟩, st22⟩ := Jvm.LawKit.callS X21 hx (y := (⟨"com/example/accordant/accordant/document/WhiteSpace", "isBlank", "([CII)Z"⟩ : MethodName)) hown (mvT hZ (hw _ (List.mem_of_getElem? (i := 10) rfl))) (mvT hZ (hw _ (List.mem_of_getElem? (i := 11) rfl))) (mvT hZ (hw _ (List.mem_of_getElem? (i := 12) rfl))) (mvT hZ (hw _ (List.mem_of_getElem? (i := 13) rfl))) (by decide) (backOf (W := 0) (rmB l Z a0 hw [] b1 k1 [(.int (nar .char cc2)), (.int (nar .char cc5)), (.int (nar .char cc8)), (.int (nar .char cc11))] (own_f (nar .char cc2) (nar .char cc5) (nar .char cc8) (nar .char cc11)) S E h13 n0 Z13 V13_b1 (own_fat (nar .char cc2) (nar .char cc5) (nar .char cc8) (nar .char cc11)) hS hE) hZ (hw _ (List.mem_of_getElem? (i := 13) rfl)) (hw _ (List.mem_of_getElem? (i := 12) rfl)) (by decide) (by decide)) (g := (mkF m 130 #[.val (.int x0), .val (.int x1), .val (.int x2), .val (.int x3), .val (.int x4), .val (.ref b1), .val (.int (Int32.ofNat S)), .val (.int (Int32.ofNat E)), .val (.int (0 : Int32))] [(.int (Int32.ofNat E)), (.int (Int32.ofNat S)), (.ref b1)])) rfl (by rw [hml]; rfl) (argsL := [(.ref b1), (.int (Int32.ofNat S)), (.int (Int32.ofNat E))]) (rest := []) (lenOf pd_2 rfl) rfl (by show 2 * 0 + _ ≤ _; exact Nat.le_of_eq rfl) (hb hby at_130) (fun _ _ => ⟨rfl, e21, (by decide : 1 + 0 ≤ _), (by decide : 4 + 0 ≤ _)⟩)
        dsimp only [Pt.U, Pt.locs, Pt.cells, Pt.slots] at X22 l22 y22 z22 st22 hQ22
        subst l22 y22 z22
        obtain ⟨rfl, N22q, e22⟩ := hQ22
        have N22 := Fr.app N21 N22q
        refine own_go st22 ?_
        show own_G p e below s _ _ _ (T22.setTop (mkF m 133 #[.val (.int x0), .val (.int x1), .val (.int x2), .val (.int x3), .val (.int x4), .val (.ref b1), .val (.int (Int32.ofNat S)), .val (.int (Int32.ofNat E)), .val (.int (0 : Int32))] [(.int (own_bl (own_f (nar .char cc2) (nar .char cc5) (nar .char cc8) (nar .char cc11)) (E - S) S))]))
        refine own_go (fun _ k => XS.iload X22.here hx rfl (hb hby at_133) rfl k) ?_
        show own_G p e below s _ _ _ (T22.setTop (mkF m 135 #[.val (.int x0), .val (.int x1), .val (.int x2), .val (.int x3), .val (.int x4), .val (.ref b1), .val (.int (Int32.ofNat S)), .val (.int (Int32.ofNat E)), .val (.int (0 : Int32))] [(.int (0 : Int32)), (.int (own_bl (own_f (nar .char cc2) (nar .char cc5) (nar .char cc8) (nar .char cc11)) (E - S) S))]))
        refine own_ic_neN X22 hx (pc := 135) (hb hby at_135) (own_hit (own_f (nar .char cc2) (nar .char cc5) (nar .char cc8) (nar .char cc11)) hS hE (j := 2) (by decide) (own_y hc99)) ?_
        show own_G p e below s _ _ _ (T22.setTop (mkF m 138 #[.val (.int x0), .val (.int x1), .val (.int x2), .val (.int x3), .val (.int x4), .val (.ref b1), .val (.int (Int32.ofNat S)), .val (.int (Int32.ofNat E)), .val (.int (0 : Int32))] []))
        refine own_go (fun _ k => XS.iconst X22.here hx rfl (hb hby at_138) k) ?_
        show own_G p e below s _ _ _ (T22.setTop (mkF m 139 #[.val (.int x0), .val (.int x1), .val (.int x2), .val (.int x3), .val (.int x4), .val (.ref b1), .val (.int (Int32.ofNat S)), .val (.int (Int32.ofNat E)), .val (.int (0 : Int32))] [(.int (1 : Int32))]))
        refine own_go (fun _ k => XS.goto X22.here hx rfl (pc0 := 139) (pc' := 143) rfl (hb hby at_139) (by decide) (by decide) k) ?_
        show own_G p e below s _ _ _ (T22.setTop (mkF m 143 #[.val (.int x0), .val (.int x1), .val (.int x2), .val (.int x3), .val (.int x4), .val (.ref b1), .val (.int (Int32.ofNat S)), .val (.int (Int32.ofNat E)), .val (.int (0 : Int32))] [(.int (1 : Int32))]))
        exact own_retN (t := .boolean) (ht := by simp) X22 hx Bd.returns (BodyLoose.notSynchronized Bd) (hb hby at_143) e22 ⟨rfl, N22⟩ (by decide) (by decide)
      · show own_G p e below s _ _ _ (T21.setTop (mkF m 102 #[.val (.int x0), .val (.int x1), .val (.int x2), .val (.int x3), .val (.int x4), .val (.ref b1), .val (.int (Int32.ofNat S)), .val (.int (Int32.ofNat E)), .unset] []))
        refine own_go (fun _ k => XS.aload X21.here hx rfl (hb hby at_102) rfl rfl k) ?_
        show own_G p e below s _ _ _ (T21.setTop (mkF m 104 #[.val (.int x0), .val (.int x1), .val (.int x2), .val (.int x3), .val (.int x4), .val (.ref b1), .val (.int (Int32.ofNat S)), .val (.int (Int32.ofNat E)), .unset] [(.ref b1)]))
        refine own_go (fun _ k => XS.iconst X21.here hx rfl (hb hby at_104) k) ?_
        show own_G p e below s _ _ _ (T21.setTop (mkF m 105 #[.val (.int x0), .val (.int x1), .val (.int x2), .val (.int x3), .val (.int x4), .val (.ref b1), .val (.int (Int32.ofNat S)), .val (.int (Int32.ofNat E)), .unset] [(.int (3 : Int32)), (.ref b1)]))
        have Vc23 := V13_b1
        obtain ⟨cl23, Ar23, q23, S23, M23, H23, G23⟩ := Vc23
        have hin23 := inb_of (j := (3 : Int32)) S23 ⟨(by decide), (by decide)⟩
        have hat23 := H23.at hin23 (v := (.int (nar .char cc11))) rfl
        refine own_go (X21.caload hx (j := (3 : Int32)) (v := (.int (nar .char cc11))) (by rw [e21]; exact Ar23.1) (State.isArrayOf_alike hZ.alike Ar23.2.1) Ar23.2.2 hin23 hat23 (g := (mkF m 105 #[.val (.int x0), .val (.int x1), .val (.int x2), .val (.int x3), .val (.int x4), .val (.ref b1), .val (.int (Int32.ofNat S)), .val (.int (Int32.ofNat E)), .unset] [(.int (3 : Int32)), (.ref b1)])) rfl rfl (hb hby at_105)) ?_
        show own_G p e below s _ _ _ (T21.setTop (mkF m 106 #[.val (.int x0), .val (.int x1), .val (.int x2), .val (.int x3), .val (.int x4), .val (.ref b1), .val (.int (Int32.ofNat S)), .val (.int (Int32.ofNat E)), .unset] [(.int (nar .char cc11))]))
        refine own_go (fun _ k => XS.iconst X21.here hx rfl (hb hby at_106) k) ?_
        show own_G p e below s _ _ _ (T21.setTop (mkF m 107 #[.val (.int x0), .val (.int x1), .val (.int x2), .val (.int x3), .val (.int x4), .val (.ref b1), .val (.int (Int32.ofNat S)), .val (.int (Int32.ofNat E)), .unset] [(.int (3 : Int32)), (.int (nar .char cc11))]))
        refine own_go (fun _ k => XS.iload X21.here hx rfl (hb hby at_107) rfl k) ?_
        show own_G p e below s _ _ _ (T21.setTop (mkF m 109 #[.val (.int x0), .val (.int x1), .val (.int x2), .val (.int x3), .val (.int x4), .val (.ref b1), .val (.int (Int32.ofNat S)), .val (.int (Int32.ofNat E)), .unset] [(.int (Int32.ofNat S)), (.int (3 : Int32)), (.int (nar .char cc11))]))
        refine own_go (fun _ k => XS.iload X21.here hx rfl (hb hby at_109) rfl k) ?_
        show own_G p e below s _ _ _ (T21.setTop (mkF m 111 #[.val (.int x0), .val (.int x1), .val (.int x2), .val (.int x3), .val (.int x4), .val (.ref b1), .val (.int (Int32.ofNat S)), .val (.int (Int32.ofNat E)), .unset] [(.int (Int32.ofNat E)), (.int (Int32.ofNat S)), (.int (3 : Int32)), (.int (nar .char cc11))]))
        obtain ⟨_, _, ⟨T24, L24, k24, n24⟩, -, X24, ⟨Lc24, hQ24, l24, y24, z24⟩, st24⟩ := Jvm.LawKit.callS X21 hx (y := (⟨"com/example/accordant/accordant/document/WhiteSpaceIsBlankPinLaw", "spoils", "(CIII)Z"⟩ : MethodName)) hown (mvT hZ (hw _ (List.mem_of_getElem? (i := 7) rfl))) (mvT hZ (hw _ (List.mem_of_getElem? (i := 8) rfl))) (mvT hZ (hw _ (List.mem_of_getElem? (i := 3) rfl))) (mvT hZ (hw _ (List.mem_of_getElem? (i := 9) rfl))) (by decide) (backOf (W := 0) (rmS l Z a0 hw [] (nar .char cc11) (3 : Int32) (Int32.ofNat S) (Int32.ofNat E) h13 n0 Z13) hZ (hw _ (List.mem_of_getElem? (i := 9) rfl)) (hw _ (List.mem_of_getElem? (i := 3) rfl)) (by decide) (by decide)) (g := (mkF m 111 #[.val (.int x0), .val (.int x1), .val (.int x2), .val (.int x3), .val (.int x4), .val (.ref b1), .val (.int (Int32.ofNat S)), .val (.int (Int32.ofNat E)), .unset] [(.int (Int32.ofNat E)), (.int (Int32.ofNat S)), (.int (3 : Int32)), (.int (nar .char cc11))])) rfl (by rw [hml]; rfl) (argsL := [(.int (nar .char cc11)), (.int (3 : Int32)), (.int (Int32.ofNat S)), (.int (Int32.ofNat E))]) (rest := []) (lenOf pd_1 rfl) rfl (by show 2 * 0 + _ ≤ _; exact Nat.le_of_eq rfl) (hb hby at_111) (fun _ _ => ⟨rfl, e21, (by decide : 1 + 0 ≤ _), (by decide : 4 + 0 ≤ _)⟩)
        dsimp only [Pt.U, Pt.locs, Pt.cells, Pt.slots] at X24 l24 y24 z24 st24 hQ24
        subst l24 y24 z24
        obtain ⟨rfl, N24q, e24⟩ := hQ24
        have N24 := Fr.app N21 N24q
        refine own_go st24 ?_
        show own_G p e below s _ _ _ (T24.setTop (mkF m 114 #[.val (.int x0), .val (.int x1), .val (.int x2), .val (.int x3), .val (.int x4), .val (.ref b1), .val (.int (Int32.ofNat S)), .val (.int (Int32.ofNat E)), .unset] [(.int (if ¬ ((3 : Int32) < Int32.ofNat S) ∧ (3 : Int32) < Int32.ofNat E ∧ 32 < (nar .char cc11) then (1 : Int32) else 0))]))
        refine own_if_ne X24 hx (pc := 114) (pc' := 121) (hb hby at_114) (by decide) (by decide) (fun hc114 => ?_) (fun hc114 => ?_)
        · show own_G p e below s _ _ _ (T24.setTop (mkF m 121 #[.val (.int x0), .val (.int x1), .val (.int x2), .val (.int x3), .val (.int x4), .val (.ref b1), .val (.int (Int32.ofNat S)), .val (.int (Int32.ofNat E)), .unset] []))
          refine own_go (fun _ k => XS.iconst X24.here hx rfl (hb hby at_121) k) ?_
          show own_G p e below s _ _ _ (T24.setTop (mkF m 122 #[.val (.int x0), .val (.int x1), .val (.int x2), .val (.int x3), .val (.int x4), .val (.ref b1), .val (.int (Int32.ofNat S)), .val (.int (Int32.ofNat E)), .unset] [(.int (0 : Int32))]))
          refine own_go (fun _ k => XS.istore X24.here hx rfl (hb hby at_122) rfl (l' := #[.val (.int x0), .val (.int x1), .val (.int x2), .val (.int x3), .val (.int x4), .val (.ref b1), .val (.int (Int32.ofNat S)), .val (.int (Int32.ofNat E)), .val (.int (0 : Int32))]) rfl k) ?_
          show own_G p e below s _ _ _ (T24.setTop (mkF m 124 #[.val (.int x0), .val (.int x1), .val (.int x2), .val (.int x3), .val (.int x4), .val (.ref b1), .val (.int (Int32.ofNat S)), .val (.int (Int32.ofNat E)), .val (.int (0 : Int32))] []))
          refine own_go (fun _ k => XS.aload X24.here hx rfl (hb hby at_124) rfl rfl k) ?_
          show own_G p e below s _ _ _ (T24.setTop (mkF m 126 #[.val (.int x0), .val (.int x1), .val (.int x2), .val (.int x3), .val (.int x4), .val (.ref b1), .val (.int (Int32.ofNat S)), .val (.int (Int32.ofNat E)), .val (.int (0 : Int32))] [(.ref b1)]))
          refine own_go (fun _ k => XS.iload X24.here hx rfl (hb hby at_126) rfl k) ?_
          show own_G p e below s _ _ _ (T24.setTop (mkF m 128 #[.val (.int x0), .val (.int x1), .val (.int x2), .val (.int x3), .val (.int x4), .val (.ref b1), .val (.int (Int32.ofNat S)), .val (.int (Int32.ofNat E)), .val (.int (0 : Int32))] [(.int (Int32.ofNat S)), (.ref b1)]))
          refine own_go (fun _ k => XS.iload X24.here hx rfl (hb hby at_128) rfl k) ?_
          show own_G p e below s _ _ _ (T24.setTop (mkF m 130 #[.val (.int x0), .val (.int x1), .val (.int x2), .val (.int x3), .val (.int x4), .val (.ref b1), .val (.int (Int32.ofNat S)), .val (.int (Int32.ofNat E)), .val (.int (0 : Int32))] [(.int (Int32.ofNat E)), (.int (Int32.ofNat S)), (.ref b1)]))
          obtain ⟨_, _, ⟨T25, L25, k25, n25⟩, -, X25, ⟨Lc25, hQ25, l25, y25, z25⟩, st25⟩ := Jvm.LawKit.callS X24 hx (y := (⟨"com/example/accordant/accordant/document/WhiteSpace", "isBlank", "([CII)Z"⟩ : MethodName)) hown (mvT hZ (hw _ (List.mem_of_getElem? (i := 10) rfl))) (mvT hZ (hw _ (List.mem_of_getElem? (i := 11) rfl))) (mvT hZ (hw _ (List.mem_of_getElem? (i := 12) rfl))) (mvT hZ (hw _ (List.mem_of_getElem? (i := 13) rfl))) (by decide) (backOf (W := 0) (rmB l Z a0 hw [] b1 k1 [(.int (nar .char cc2)), (.int (nar .char cc5)), (.int (nar .char cc8)), (.int (nar .char cc11))] (own_f (nar .char cc2) (nar .char cc5) (nar .char cc8) (nar .char cc11)) S E h13 n0 Z13 V13_b1 (own_fat (nar .char cc2) (nar .char cc5) (nar .char cc8) (nar .char cc11)) hS hE) hZ (hw _ (List.mem_of_getElem? (i := 13) rfl)) (hw _ (List.mem_of_getElem? (i := 12) rfl)) (by decide) (by decide)) (g := (mkF m 130 #[.val (.int x0), .val (.int x1), .val (.int x2), .val (.int x3), .val (.int x4), .val (.ref b1), .val (.int (Int32.ofNat S)), .val (.int (Int32.ofNat E)), .val (.int (0 : Int32))] [(.int (Int32.ofNat E)), (.int (Int32.ofNat S)), (.ref b1)])) rfl (by rw [hml]; rfl) (argsL := [(.ref b1), (.int (Int32.ofNat S)), (.int (Int32.ofNat E))]) (rest := []) (lenOf pd_2 rfl) rfl (by show 2 * 0 + _ ≤ _; exact Nat.le_of_eq rfl) (hb hby at_130) (fun _ _ => ⟨rfl, e24, (by decide : 1 + 0 ≤ _), (by decide : 4 + 0 ≤ _)⟩)
          dsimp only [Pt.U, Pt.locs, Pt.cells, Pt.slots] at X25 l25 y25 z25 st25 hQ25
          subst l25 y25 z25
          obtain ⟨rfl, N25q, e25⟩ := hQ25
          have N25 := Fr.app N24 N25q
          refine own_go st25 ?_
          show own_G p e below s _ _ _ (T25.setTop (mkF m 133 #[.val (.int x0), .val (.int x1), .val (.int x2), .val (.int x3), .val (.int x4), .val (.ref b1), .val (.int (Int32.ofNat S)), .val (.int (Int32.ofNat E)), .val (.int (0 : Int32))] [(.int (own_bl (own_f (nar .char cc2) (nar .char cc5) (nar .char cc8) (nar .char cc11)) (E - S) S))]))
          refine own_go (fun _ k => XS.iload X25.here hx rfl (hb hby at_133) rfl k) ?_
          show own_G p e below s _ _ _ (T25.setTop (mkF m 135 #[.val (.int x0), .val (.int x1), .val (.int x2), .val (.int x3), .val (.int x4), .val (.ref b1), .val (.int (Int32.ofNat S)), .val (.int (Int32.ofNat E)), .val (.int (0 : Int32))] [(.int (0 : Int32)), (.int (own_bl (own_f (nar .char cc2) (nar .char cc5) (nar .char cc8) (nar .char cc11)) (E - S) S))]))
          refine own_ic_neN X25 hx (pc := 135) (hb hby at_135) (own_hit (own_f (nar .char cc2) (nar .char cc5) (nar .char cc8) (nar .char cc11)) hS hE (j := 3) (by decide) (own_y hc114)) ?_
          show own_G p e below s _ _ _ (T25.setTop (mkF m 138 #[.val (.int x0), .val (.int x1), .val (.int x2), .val (.int x3), .val (.int x4), .val (.ref b1), .val (.int (Int32.ofNat S)), .val (.int (Int32.ofNat E)), .val (.int (0 : Int32))] []))
          refine own_go (fun _ k => XS.iconst X25.here hx rfl (hb hby at_138) k) ?_
          show own_G p e below s _ _ _ (T25.setTop (mkF m 139 #[.val (.int x0), .val (.int x1), .val (.int x2), .val (.int x3), .val (.int x4), .val (.ref b1), .val (.int (Int32.ofNat S)), .val (.int (Int32.ofNat E)), .val (.int (0 : Int32))] [(.int (1 : Int32))]))
          refine own_go (fun _ k => XS.goto X25.here hx rfl (pc0 := 139) (pc' := 143) rfl (hb hby at_139) (by decide) (by decide) k) ?_
          show own_G p e below s _ _ _ (T25.setTop (mkF m 143 #[.val (.int x0), .val (.int x1), .val (.int x2), .val (.int x3), .val (.int x4), .val (.ref b1), .val (.int (Int32.ofNat S)), .val (.int (Int32.ofNat E)), .val (.int (0 : Int32))] [(.int (1 : Int32))]))
          exact own_retN (t := .boolean) (ht := by simp) X25 hx Bd.returns (BodyLoose.notSynchronized Bd) (hb hby at_143) e25 ⟨rfl, N25⟩ (by decide) (by decide)
        · show own_G p e below s _ _ _ (T24.setTop (mkF m 117 #[.val (.int x0), .val (.int x1), .val (.int x2), .val (.int x3), .val (.int x4), .val (.ref b1), .val (.int (Int32.ofNat S)), .val (.int (Int32.ofNat E)), .unset] []))
          refine own_go (fun _ k => XS.iconst X24.here hx rfl (hb hby at_117) k) ?_
          show own_G p e below s _ _ _ (T24.setTop (mkF m 118 #[.val (.int x0), .val (.int x1), .val (.int x2), .val (.int x3), .val (.int x4), .val (.ref b1), .val (.int (Int32.ofNat S)), .val (.int (Int32.ofNat E)), .unset] [(.int (1 : Int32))]))
          refine own_go (fun _ k => XS.goto X24.here hx rfl (pc0 := 118) (pc' := 122) rfl (hb hby at_118) (by decide) (by decide) k) ?_
          show own_G p e below s _ _ _ (T24.setTop (mkF m 122 #[.val (.int x0), .val (.int x1), .val (.int x2), .val (.int x3), .val (.int x4), .val (.ref b1), .val (.int (Int32.ofNat S)), .val (.int (Int32.ofNat E)), .unset] [(.int (1 : Int32))]))
          refine own_go (fun _ k => XS.istore X24.here hx rfl (hb hby at_122) rfl (l' := #[.val (.int x0), .val (.int x1), .val (.int x2), .val (.int x3), .val (.int x4), .val (.ref b1), .val (.int (Int32.ofNat S)), .val (.int (Int32.ofNat E)), .val (.int (1 : Int32))]) rfl k) ?_
          show own_G p e below s _ _ _ (T24.setTop (mkF m 124 #[.val (.int x0), .val (.int x1), .val (.int x2), .val (.int x3), .val (.int x4), .val (.ref b1), .val (.int (Int32.ofNat S)), .val (.int (Int32.ofNat E)), .val (.int (1 : Int32))] []))
          refine own_go (fun _ k => XS.aload X24.here hx rfl (hb hby at_124) rfl rfl k) ?_
          show own_G p e below s _ _ _ (T24.setTop (mkF m 126 #[.val (.int x0), .val (.int x1), .val (.int x2), .val (.int x3), .val (.int x4), .val (.ref b1), .val (.int (Int32.ofNat S)), .val (.int (Int32.ofNat E)), .val (.int (1 : Int32))] [(.ref b1)]))
          refine own_go (fun _ k => XS.iload X24.here hx rfl (hb hby at_126) rfl k) ?_
          show own_G p e below s _ _ _ (T24.setTop (mkF m 128 #[.val (.int x0), .val (.int x1), .val (.int x2), .val (.int x3), .val (.int x4), .val (.ref b1), .val (.int (Int32.ofNat S)), .val (.int (Int32.ofNat E)), .val (.int (1 : Int32))] [(.int (Int32.ofNat S)), (.ref b1)]))
          refine own_go (fun _ k => XS.iload X24.here hx rfl (hb hby at_128) rfl k) ?_
          show own_G p e below s _ _ _ (T24.setTop (mkF m 130 #[.val (.int x0), .val (.int x1), .val (.int x2), .val (.int x3), .val (.int x4), .val (.ref b1), .val (.int (Int32.ofNat S)), .val (.int (Int32.ofNat E)), .val (.int (1 : Int32))] [(.int (Int32.ofNat E)), (.int (Int32.ofNat S)), (.ref b1)]))
          obtain ⟨_, _, ⟨T26, L26, k26, n26⟩, -, X26, ⟨Lc26, hQ26, l26, y26, z26⟩, st26⟩ := Jvm.LawKit.callS X24 hx (y := (⟨"com/example/accordant/accordant/document/WhiteSpace", "isBlank", "([CII)Z"⟩ : MethodName)) hown (mvT hZ (hw _ (List.mem_of_getElem? (i := 10) rfl))) (mvT hZ (hw _ (List.mem_of_getElem? (i := 11) rfl))) (mvT hZ (hw _ (List.mem_of_getElem? (i := 12) rfl))) (mvT hZ (hw _ (List.mem_of_getElem? (i := 13) rfl))) (by decide) (backOf (W := 0) (rmB l Z a0 hw [] b1 k1 [(.int (nar .char cc2)), (.int (nar .char cc5)), (.int (nar .char cc8)), (.int (nar .char cc11))] (own_f (nar .char cc2) (nar .char cc5) (nar .char cc8) (nar .char cc11)) S E h13 n0 Z13 V13_b1 (own_fat (nar .char cc2) (nar .char cc5) (nar .char cc8) (nar .char cc11)) hS hE) hZ (hw _ (List.mem_of_getElem? (i := 13) rfl)) (hw _ (List.mem_of_getElem? (i := 12) rfl)) (by decide) (by decide)) (g := (mkF m 130 #[.val (.int x0), .val (.int x1), .val (.int x2), .val (.int x3), .val (.int x4), .val (.ref b1), .val (.int (Int32.ofNat S)), .val (.int (Int32.ofNat E)), .val (.int (1 : Int32))] [(.int (Int32.ofNat E)), (.int (Int32.ofNat S)), (.ref b1)])) rfl (by rw [hml]; rfl) (argsL := [(.ref b1), (.int (Int32.ofNat S)), (.int (Int32.ofNat E))]) (rest := []) (lenOf pd_2 rfl) rfl (by show 2 * 0 + _ ≤ _; exact Nat.le_of_eq rfl) (hb hby at_130) (fun _ _ => ⟨rfl, e24, (by decide : 1 + 0 ≤ _), (by decide : 4 + 0 ≤ _)⟩)
          dsimp only [Pt.U, Pt.locs, Pt.cells, Pt.slots] at X26 l26 y26 z26 st26 hQ26
          subst l26 y26 z26
          obtain ⟨rfl, N26q, e26⟩ := hQ26
          have N26 := Fr.app N24 N26q
          refine own_go st26 ?_
          show own_G p e below s _ _ _ (T26.setTop (mkF m 133 #[.val (.int x0), .val (.int x1), .val (.int x2), .val (.int x3), .val (.int x4), .val (.ref b1), .val (.int (Int32.ofNat S)), .val (.int (Int32.ofNat E)), .val (.int (1 : Int32))] [(.int (own_bl (own_f (nar .char cc2) (nar .char cc5) (nar .char cc8) (nar .char cc11)) (E - S) S))]))
          refine own_go (fun _ k => XS.iload X26.here hx rfl (hb hby at_133) rfl k) ?_
          show own_G p e below s _ _ _ (T26.setTop (mkF m 135 #[.val (.int x0), .val (.int x1), .val (.int x2), .val (.int x3), .val (.int x4), .val (.ref b1), .val (.int (Int32.ofNat S)), .val (.int (Int32.ofNat E)), .val (.int (1 : Int32))] [(.int (1 : Int32)), (.int (own_bl (own_f (nar .char cc2) (nar .char cc5) (nar .char cc8) (nar .char cc11)) (E - S) S))]))
          refine own_ic_neN X26 hx (pc := 135) (hb hby at_135) (own_non (own_f (nar .char cc2) (nar .char cc5) (nar .char cc8) (nar .char cc11)) hS hE fun j hj => match j, hj with | 0, _ => own_nn hc69 | 1, _ => own_nn hc84 | 2, _ => own_nn hc99 | 3, _ => own_nn hc114) ?_
          show own_G p e below s _ _ _ (T26.setTop (mkF m 138 #[.val (.int x0), .val (.int x1), .val (.int x2), .val (.int x3), .val (.int x4), .val (.ref b1), .val (.int (Int32.ofNat S)), .val (.int (Int32.ofNat E)), .val (.int (1 : Int32))] []))
          refine own_go (fun _ k => XS.iconst X26.here hx rfl (hb hby at_138) k) ?_
          show own_G p e below s _ _ _ (T26.setTop (mkF m 139 #[.val (.int x0), .val (.int x1), .val (.int x2), .val (.int x3), .val (.int x4), .val (.ref b1), .val (.int (Int32.ofNat S)), .val (.int (Int32.ofNat E)), .val (.int (1 : Int32))] [(.int (1 : Int32))]))
          refine own_go (fun _ k => XS.goto X26.here hx rfl (pc0 := 139) (pc' := 143) rfl (hb hby at_139) (by decide) (by decide) k) ?_
          show own_G p e below s _ _ _ (T26.setTop (mkF m 143 #[.val (.int x0), .val (.int x1), .val (.int x2), .val (.int x3), .val (.int x4), .val (.ref b1), .val (.int (Int32.ofNat S)), .val (.int (Int32.ofNat E)), .val (.int (1 : Int32))] [(.int (1 : Int32))]))
          exact own_retN (t := .boolean) (ht := by simp) X26 hx Bd.returns (BodyLoose.notSynchronized Bd) (hb hby at_143) e26 ⟨rfl, N26⟩ (by decide) (by decide)
set_option maxRecDepth 65536 in
set_option maxHeartbeats 40000000 in
theorem comes_1 {Post : Tables → Env → Array Value → State → Outcome → State → Prop} (hpost : ∀ tb e args s v u, (limb_1_1.after args s (.returned v) u = true ∧ limb_1_2.after args s (.returned v) u = true ∧ True) → FrameEnd s (.returned v) u (Jvm.fieldLocs frame_1_writes args s ++ Jvm.arrayLocs frame_1_arrays args s ++ Jvm.staticLocs frame_1_statics s) 16 128 → Post tb e args s (.returned v) u) :
    ArmFor flags0 classFile x code maxLocals ret World_1 tables_1 room_1 Calls_1 rest_1 Pre_1 Post := by
  intro l hfl _ _ p e ha hc hk s m args below hf hA hF happ hP
  obtain ⟨hcalls, hrest, hpre⟩ := hP
  obtain ⟨-, -, -, hnamed, -, -, -, hat⟩ := (Spec.applies_iff hf).mp happ
  obtain ⟨hg, hn⟩ := and_e (Cond.before_iff.mp (show (Jvm.Cond.and given_1 narrow_1).before args s = true from hpre))
  obtain ⟨hct, hr0⟩ := and_e hg
  obtain ⟨hv0, hr1⟩ := and_e hr0
  obtain ⟨hv1, hr2⟩ := and_e hr1
  obtain ⟨hv2, hr3⟩ := and_e hr2
  obtain ⟨hv3, hr4⟩ := and_e hr3
  obtain ⟨w0, w1, w2, w3, w4, rfl⟩ : ∃ w0 w1 w2 w3 w4 : Value, args = #[w0, w1, w2, w3, w4] := by
    have hs : args.size = 5 := by simpa [Cond.value, given_1] using hct
    obtain ⟨L⟩ := args
    match L, hs with
    | [w0, w1, w2, w3, w4], _ => exact ⟨w0, w1, w2, w3, w4, rfl⟩
  have hw := fun d (hd : d ∈ tables_1) => atoms_spec (ws := Jvm.Cond.code x code maxLocals ret :: tables_1) hat d (List.mem_cons_of_mem _ hd)
  have hfit : Fit s := fun {y c} hc i hi => by
    obtain ⟨ha, rfl⟩ := Array.getElem?_eq_some_iff.mp hc
    have q := List.all_eq_true.mp ((Array.all_eq_true_iff_forall_mem.mp hF) _ (Array.getElem_mem ha)) i (List.mem_range.mpr hi)
    simpa [Array.getElem?_eq_getElem hi] using q
  obtain ⟨i0, ei0⟩ := is_v hv0
  obtain rfl : w0 = (.int i0) := Option.some.inj ei0
  obtain ⟨i1, ei1⟩ := is_v hv1
  obtain rfl : w1 = (.int i1) := Option.some.inj ei1
  obtain ⟨i2, ei2⟩ := is_v hv2
  obtain rfl : w2 = (.int i2) := Option.some.inj ei2
  obtain ⟨i3, ei3⟩ := is_v hv3
  obtain rfl : w3 = (.int i3) := Option.some.inj ei3
  obtain ⟨i4, ei4⟩ := is_v hr4
  obtain rfl : w4 = (.int i4) := Option.some.inj ei4
  obtain ⟨n, o, h1, h2, h3, _, L, rfl, ⟨rfl, N⟩, hq⟩ := rm0 l s _ hw tables_1 i0 i1 i2 i3 i4 s.heap s.heap.size (Nat.le_refl _)  p e ha hc hk s m _ below hf ((Spec.applies_iff_loose hf).mp happ).1 ⟨rfl, State.Warmed39.refl s, rfl⟩ trivial
  refine ⟨n, _, h1, h2, h3, hpost _ _ _ _ _ _ ⟨Cond.after_iff.mpr rfl, Cond.after_iff.mpr (eq_i res_at (Term.int_eval (1)) rfl), trivial⟩ ⟨hq.1, hq.2.1, (hq.2.2.sift fun y hy => Or.inr (N y hy)).mono (by decide) (by decide)⟩⟩
theorem main_1_1 : Claimed_1_1 := comes_1 fun _ _ _ _ _ _ h hF => ⟨h.1, hF⟩
theorem main_1_2 : Claimed_1_2 := comes_1 fun _ _ _ _ _ _ h hF => ⟨h.2.1, hF⟩
end Jvm.Pilot.@@N@@
namespace Jvm.Pilot.@@N@@
open Jvm Jvm.ClassFile Sem Op Lib Jvm.Free Jvm.Stand Jvm.Pilot.@@N@@.Jvm.D
/-! MADE BY PROGRAM (witnessworld.py) out of the Statement's table words and the real class files: 11 classes; the members and pool entries that the words name. The judged class is class 1, her method 3. -/
namespace start1
open Jvm.ClassFile
def u (s : String) : CpInfo := .utf8 (stringToUtf16 s)
/-- a pool by its gaps: so many unusable entries, then the entry; so many at the end -/
def gap : Nat → List CpInfo → List CpInfo
  | 0, r => r
  | n + 1, r => .unusable :: gap n r
def poolList (es : List (Nat × CpInfo)) (last : Nat) : List CpInfo := es.foldr (fun e r => gap e.1 (e.2 :: r)) (gap last [])
def pool (es : List (Nat × CpInfo)) (last : Nat) : Array CpInfo := ⟨poolList es last⟩
def fileOf (pool : Array CpInfo) (this : Nat) (attrs : Array Attribute := #[]) (ms : Array MethodInfo := #[]) (fl : Nat := 33) (sup : Nat := 0) (ifs : Array Nat := #[]) (fds : Array FieldInfo := #[]) : ClassFile where
  minorVersion := 0
  majorVersion := 65
  constantPool := pool
  accessFlags := fl
  thisClass := this
  superClass := sup
  interfaces := ifs
  fields := fds
  methods := ms
  attributes := attrs
def plain (name : String) (sup : Option ClassId) : Class where
  name := name
  kind := .ordinary
  loader := none
  accessFlags := 33
  super := sup
  interfaces := #[]
  cf := none
  fields := #[]
  methods := #[]
  instanceTypes := #[]
  staticTypes := #[]
  resolved := #[]
  callSites := []
  init := .initialized
  statics := none
  mirror := none

def pool0 : Array CpInfo := pool [(5, u "<init>"), (0, u "()V"), (1, .class_ 10), (1, u "java/lang/Object")] 113

def k0m0 : Method := { name := "<init>", desc := "()V", sig := { parameters := [], returnType := none }, accessFlags := 1, code := none }
/-- java/lang/Object -/
def k0 : Class := { plain "java/lang/Object" none with
  accessFlags := 33
  interfaces := #[]
  cf := some (fileOf pool0 8 #[] #[{ accessFlags := 1, nameIndex := 5, descriptorIndex := 6, attributes := #[] }] 33 0 #[] #[])
  fields := #[]
  methods := #[k0m0]
  instanceTypes := #[]
  staticTypes := #[]
  resolved := Array.replicate 124 none
  statics := none }

def pool1 : Array CpInfo := pool [(2, .class_ 4), (1, u "java/lang/Object"), (0, u "<init>"), (0, u "()V"), (0, .integer 65536), (0, .integer 65535), (0, .methodref 10 11), (0, .class_ 12), (0, .nameAndType 13 14), (0, u "com/example/accordant/accordant/document/WhiteSpaceIsBlankPinLaw"), (0, u "draw"), (0, u "(I)C"), (0, .methodref 10 16), (0, .nameAndType 17 18), (0, u "spoils"), (0, u "(CIII)Z"), (0, .methodref 20 21), (0, .class_ 22), (0, .nameAndType 23 24), (0, u "com/example/accordant/accordant/document/WhiteSpace"), (0, u "isBlank"), (0, u "([CII)Z"), (3, u "law"), (0, u "(IIIII)Z")] 4

def k1m0 : Method := { name := "<init>", desc := "()V", sig := { parameters := [], returnType := none }, accessFlags := 2, code := none }
def k1c1 : Code := { maxStack := 2, maxLocals := 1, code := method_2_code, exceptionTable := #[], attributes := #[] }
def k1m1 : Method := { name := "draw", desc := "(I)C", sig := { parameters := [.int], returnType := some .char }, accessFlags := 10, code := some k1c1 }
def k1c2 : Code := { maxStack := 2, maxLocals := 4, code := method_3_code, exceptionTable := #[], attributes := #[] }
def k1m2 : Method := { name := "spoils", desc := "(CIII)Z", sig := { parameters := [.char, .int, .int, .int], returnType := some .boolean }, accessFlags := 10, code := some k1c2 }
def k1c3 : Code := { maxStack := 4, maxLocals := 9, code := code, exceptionTable := #[], attributes := #[] }
def k1m3 : Method := { name := "law", desc := "(IIIII)Z", sig := { parameters := [.int, .int, .int, .int, .int], returnType := some .boolean }, accessFlags := 9, code := some k1c3 }
/-- com/example/accordant/accordant/document/WhiteSpaceIsBlankPinLaw -/
def k1 : Class := { plain "com/example/accordant/accordant/document/WhiteSpaceIsBlankPinLaw" (some 0) with
  accessFlags := 49
  interfaces := #[]
  cf := some (fileOf pool1 10 #[] #[{ accessFlags := 2, nameIndex := 5, descriptorIndex := 6, attributes := #[] }, { accessFlags := 10, nameIndex := 13, descriptorIndex := 14, attributes := #[] }, { accessFlags := 10, nameIndex := 17, descriptorIndex := 18, attributes := #[] }, { accessFlags := 9, nameIndex := 28, descriptorIndex := 29, attributes := #[] }] 49 2 #[] #[])
  fields := #[]
  methods := #[k1m0, k1m1, k1m2, k1m3]
  instanceTypes := #[]
  staticTypes := #[]
  resolved := Array.replicate 34 none
  statics := none }

def pool2 : Array CpInfo := pool [(2, .class_ 4), (1, u "java/lang/Object"), (0, u "<init>"), (0, u "()V"), (1, .class_ 10), (1, u "com/example/accordant/accordant/document/WhiteSpace"), (4, u "RUN"), (0, u "Ljava/util/regex/Pattern;"), (38, u "isBlank"), (0, u "([CII)Z")] 3

def k2m0 : Method := { name := "<init>", desc := "()V", sig := { parameters := [], returnType := none }, accessFlags := 2, code := none }
def k2c1 : Code := { maxStack := 2, maxLocals := 4, code := prog_26_method_3_code, exceptionTable := #[], attributes := #[] }
def k2m1 : Method := { name := "isBlank", desc := "([CII)Z", sig := { parameters := [(.array .char), .int, .int], returnType := some .boolean }, accessFlags := 9, code := some k2c1 }
/-- com/example/accordant/accordant/document/WhiteSpace -/
def k2 : Class := { plain "com/example/accordant/accordant/document/WhiteSpace" (some 0) with
  accessFlags := 49
  interfaces := #[]
  cf := some (fileOf pool2 8 #[] #[{ accessFlags := 2, nameIndex := 5, descriptorIndex := 6, attributes := #[] }, { accessFlags := 9, nameIndex := 55, descriptorIndex := 56, attributes := #[] }] 49 2 #[] #[{ accessFlags := 26, nameIndex := 15, descriptorIndex := 16, attributes := #[] }])
  fields := #[{ name := "RUN", type := (.object "java/util/regex/Pattern"), accessFlags := 26, slot := 0, constantValue := 0 }]
  methods := #[k2m0, k2m1]
  instanceTypes := #[]
  staticTypes := #[(.object "java/util/regex/Pattern")]
  resolved := Array.replicate 60 none
  statics := none }

def pool3 : Array CpInfo := pool [(1, u "java/lang/Cloneable"), (0, .class_ 1), (0, u "java/lang/Object"), (0, .class_ 3)] 3

/-- java/lang/Cloneable -/
def k3 : Class := { plain "java/lang/Cloneable" (some 0) with
  accessFlags := 1537
  interfaces := #[]
  cf := some (fileOf pool3 2 #[] #[] 1537 4 #[] #[])
  fields := #[]
  methods := #[]
  instanceTypes := #[]
  staticTypes := #[]
  resolved := Array.replicate 8 none
  statics := none }

def pool4 : Array CpInfo := pool [(1, u "java/io/Serializable"), (0, .class_ 1), (0, u "java/lang/Object"), (0, .class_ 3)] 3

/-- java/io/Serializable -/
def k4 : Class := { plain "java/io/Serializable" (some 0) with
  accessFlags := 1537
  interfaces := #[]
  cf := some (fileOf pool4 2 #[] #[] 1537 4 #[] #[])
  fields := #[]
  methods := #[]
  instanceTypes := #[]
  staticTypes := #[]
  resolved := Array.replicate 8 none
  statics := none }

/-- the primitive byte -/
def k5 : Class := { plain "byte" none with kind := .primitive 'B', accessFlags := 0x411 }
/-- [B -/
def k6 : Class := { plain "[B" (some 0) with kind := .array 5 .byte, interfaces := #[3, 4], accessFlags := 1041 }

/-- the primitive char -/
def k7 : Class := { plain "char" none with kind := .primitive 'C', accessFlags := 0x411 }
/-- [C -/
def k8 : Class := { plain "[C" (some 0) with kind := .array 7 .char, interfaces := #[3, 4], accessFlags := 1041 }

/-- the primitive int -/
def k9 : Class := { plain "int" none with kind := .primitive 'I', accessFlags := 0x411 }
/-- [I -/
def k10 : Class := { plain "[I" (some 0) with kind := .array 9 .int, interfaces := #[3, 4], accessFlags := 1041 }

def heap : Heap := #[]
def classes : Array Class := #[k0, k1, k2, k3, k4, k5, k6, k7, k8, k9, k10]
def interned : List (Array UInt16 × Addr) := []
def slotsUsed : Nat := 0
def theMethod : MethodId := ⟨1, 3⟩
def args0 : Array Value := #[.int 2, .int 0, .int 7, .int 1, .int 2]
def aboutOver (below : List Frame) : State where
  vm := { classes := classes, interned := interned.toArray }
  heap := heap
  slotsUsed := slotsUsed
  threads := #[{ frames := .invoking theMethod args0 :: below }]
def below0 : List Frame := [.native { method := ⟨0, 0⟩, args := #[] }]
def about1 : State := aboutOver below0
def p0 : Program := .bare "" "" ""
def e0 : Env := launch0.env 0 0 0
theorem w_frames : about1.frames = Frame.invoking theMethod args0 :: below0 := rfl
set_option maxRecDepth 65536 in
theorem w_args : argsFit about1.vm theMethod args0 = true := by decide +kernel
set_option maxRecDepth 65536 in
theorem w_heap : heapFits about1 = true := by decide +kernel
set_option maxRecDepth 65536 in
theorem w_runnable : about1.curStatus? = some .runnable := by decide +kernel
set_option maxRecDepth 65536 in
theorem w_alone : about1.alone = true := by decide +kernel
set_option maxRecDepth 65536 in
theorem w_named : about1.methodNamed? x = some theMethod := by decide +kernel
set_option maxRecDepth 65536 in
theorem w_hears : about1.hears theMethod below0 = true := by decide +kernel
set_option maxRecDepth 65536 in
theorem w_ripe : about1.ripe theMethod args0 below0 = true := by decide +kernel
theorem w_running : about1.status = .running := rfl
set_option maxRecDepth 65536 in
theorem w_room : about1.hasRoom e0.platform room_1 = true :=
  launch0.hasRoom_least _ room_1 (by decide +kernel) (by decide +kernel) (by decide +kernel) (by decide +kernel) (by decide +kernel) (by decide +kernel)
theorem allAtoms_all (ts : List Jvm.Cond) (a : Array Jvm.Value) (st : Jvm.State) : (allAtoms ts).before a st = ts.all (fun c => c.before a st) := by
  induction ts with
  | nil => rfl
  | cons c t ih =>
    show (Jvm.Cond.and c (allAtoms t)).before a st = _
    rw [Jvm.Cond.before_and, ih, List.all_cons]
def words1 : List Jvm.Cond := Jvm.Cond.code x code maxLocals ret :: tables_1
/-- a 'code' word, met by the world's own term for the bytes: nothing is compared byte by byte -/
theorem code_word {y : MethodName} {bytes : ByteArray} {mx : Nat} {rt : Option FieldType} {a : Array Value} {s : State} {m : MethodId} {meth : Method} {c : Code} (h1 : s.methodNamed? y = some m) (h2 : s.vm.method? m = some meth) (h3 : meth.code = some c) (h4 : c.code = bytes)
    (h5 : (c.maxLocals == mx && c.exceptionTable.isEmpty && decide (c.maxStack ≤ mostOperands) && decide (meth.sig.returnType = rt) && !meth.locks && decide (parseMethodDescriptor y.desc = some meth.sig)) = true) : (Jvm.Cond.code y bytes mx rt).before a s = true := by
  simp only [Bool.and_eq_true, beq_iff_eq, Bool.not_eq_true', decide_eq_true_eq] at h5
  obtain ⟨⟨⟨⟨⟨g1, g2⟩, g3⟩, g4⟩, g5⟩, g6⟩ := h5
  simp [Cond.before, Cond.holds, Cond.value, h1, h2, h3, h4, g1, g2, g3, g4, g5, g6]
def isCode : Jvm.Cond → Bool
  | .code _ _ _ _ => true
  | _ => false
theorem all_split {L : List Jvm.Cond} {P : Jvm.Cond → Bool} (h1 : L.all (fun c => isCode c || P c) = true) (h2 : ∀ c ∈ L.filter isCode, P c = true) : L.all P = true := by
  refine List.all_eq_true.mpr fun c hc => ?_
  have h := List.all_eq_true.mp h1 c hc
  rcases Bool.eq_false_or_eq_true (isCode c) with hi | hi
  · exact h2 c (List.mem_filter.mpr ⟨hc, hi⟩)
  · simpa [hi] using h
set_option maxRecDepth 65536 in
theorem w_c0 : (Jvm.Cond.code x code maxLocals ret).before args0 about1 = true := code_word (m := ⟨1, 3⟩) (meth := k1m3) (c := k1c3) (by decide +kernel) rfl rfl rfl (by decide +kernel)
set_option maxRecDepth 65536 in
theorem w_c1 : (Jvm.Cond.code ({ cls := "com/example/accordant/accordant/document/WhiteSpaceIsBlankPinLaw", name := "draw", desc := "(I)C" } : Jvm.MethodName) method_2_code (1 : Nat) (Option.some Jvm.ClassFile.FieldType.char)).before args0 about1 = true := code_word (m := ⟨1, 1⟩) (meth := k1m1) (c := k1c1) (by decide +kernel) rfl rfl rfl (by decide +kernel)
set_option maxRecDepth 65536 in
theorem w_c2 : (Jvm.Cond.code ({ cls := "com/example/accordant/accordant/document/WhiteSpaceIsBlankPinLaw", name := "spoils", desc := "(CIII)Z" } : Jvm.MethodName) method_3_code (4 : Nat) (Option.some Jvm.ClassFile.FieldType.boolean)).before args0 about1 = true := code_word (m := ⟨1, 2⟩) (meth := k1m2) (c := k1c2) (by decide +kernel) rfl rfl rfl (by decide +kernel)
set_option maxRecDepth 65536 in
theorem w_c3 : (Jvm.Cond.code ({ cls := "com/example/accordant/accordant/document/WhiteSpace", name := "isBlank", desc := "([CII)Z" } : Jvm.MethodName) prog_26_method_3_code (4 : Nat) (Option.some Jvm.ClassFile.FieldType.boolean)).before args0 about1 = true := code_word (m := ⟨2, 1⟩) (meth := k2m1) (c := k2c1) (by decide +kernel) rfl rfl rfl (by decide +kernel)
def codes1 : List Jvm.Cond := [Jvm.Cond.code x code maxLocals ret, Jvm.Cond.code ({ cls := "com/example/accordant/accordant/document/WhiteSpaceIsBlankPinLaw", name := "draw", desc := "(I)C" } : Jvm.MethodName) method_2_code (1 : Nat) (Option.some Jvm.ClassFile.FieldType.char), Jvm.Cond.code ({ cls := "com/example/accordant/accordant/document/WhiteSpaceIsBlankPinLaw", name := "spoils", desc := "(CIII)Z" } : Jvm.MethodName) method_3_code (4 : Nat) (Option.some Jvm.ClassFile.FieldType.boolean), Jvm.Cond.code ({ cls := "com/example/accordant/accordant/document/WhiteSpace", name := "isBlank", desc := "([CII)Z" } : Jvm.MethodName) prog_26_method_3_code (4 : Nat) (Option.some Jvm.ClassFile.FieldType.boolean)]
set_option maxRecDepth 65536 in
theorem codes_eq : words1.filter isCode = codes1 := rfl
theorem w_codes : ∀ c ∈ words1.filter isCode, c.before args0 about1 = true := by
  rw [codes_eq]
  intro c hc
  simp only [codes1, List.mem_cons, List.not_mem_nil, or_false] at hc
  rcases hc with rfl | rfl | rfl | rfl
  · exact w_c0
  · exact w_c1
  · exact w_c2
  · exact w_c3
set_option maxRecDepth 65536 in
theorem w_t1 : words1.all (fun c => isCode c || c.before args0 about1) = true := by decide +kernel
theorem w_tables : (allAtoms (Jvm.Cond.code x code maxLocals ret :: tables_1)).before args0 about1 = true := by
  rw [allAtoms_all]
  show words1.all (fun c => c.before args0 about1) = true
  refine all_split ?_ w_codes
  rw [w_t1]
set_option maxRecDepth 65536 in
theorem w_case : (Jvm.Cond.and given_1 narrow_1).before args0 about1 = true := by decide +kernel
theorem w_applies : (headSpec (Jvm.Cond.code x code maxLocals ret :: tables_1) room_1).applies x e0.platform about1 = true :=
  (Spec.applies_iff w_frames).mpr ⟨w_running, w_runnable, w_alone, w_named, w_hears, w_ripe, w_room, w_tables⟩
theorem atStart : AtStart classFile x code maxLocals ret World_1 tables_1 room_1 Calls_1 rest_1 Pre_1 launch0 p0 e0 about1 theMethod args0 below0 :=
  ⟨lists_1, trivial, launch0.admits_env _ _ _, launch0.least_env, fairChoices_fair.cas, fairChoices_fair.clock, w_frames, w_args, w_heap, w_applies, trivial, trivial, w_case⟩
end start1
theorem witness_1 : WitnessClaimed_1 := ⟨start1.p0, start1.e0, start1.about1, start1.theMethod, start1.args0, start1.below0, start1.atStart⟩
end Jvm.Pilot.@@N@@

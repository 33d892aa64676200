import Derived.Test.Qxb6613588aAdd
import Derived.Test.Qxb6613588aInfo
/- what stands ahead of each round of zzBuild's loop -/
namespace Go.Proofs.Qxb6613588a.Inv
open Go.ChangeShapes Go.WideShapes Go.ChangeAt Go.RowKit Base Mem Qxb6613588a.Add Info

/-- declaration i of ds is what S says -/
def DeclIs (S : Specs) (w : World) (ds bs : List Value) (i : Nat) : Prop :=
  (S.K i = 1 → ∃ A p, ds[i]? = some (.iface 52 (.pointer (some ⟨A, 0, none⟩))) ∧ w.heap[A]? = some (Obj.cells #[.pointer (some p)] 54 (0, 0)) ∧ bs[cnt S i]? = some (.pointer (some p))) ∧
  (S.K i ≠ 1 → ∃ v, ds[i]? = some v ∧ Other v)

theorem DeclIs.keep {S : Specs} {w w' : World} {ds bs : List Value} {i : Nat} {ts : List TypeId} (h : DeclIs S w ds bs i) (hk : KeepT ts w w') (ht : 54 ∉ ts) (d b : List Value) : DeclIs S w' (ds ++ d) (bs ++ b) i := by
  refine ⟨fun h1 => ?_, fun h1 => ?_⟩
  · obtain ⟨A, p, x, y, z⟩ := h.1 h1
    refine ⟨A, p, ?_, hk.block _ _ _ _ y ht, ?_⟩
    · rw [List.getElem?_append_left (List.getElem?_eq_some_iff.1 x).1]; exact x
    · rw [List.getElem?_append_left (List.getElem?_eq_some_iff.1 z).1]; exact z
  · obtain ⟨v, x, y⟩ := h.2 h1
    exact ⟨v, by rw [List.getElem?_append_left (List.getElem?_eq_some_iff.1 x).1]; exact x, y⟩

structure Inv (S : Specs) (B F : Nat) (path : ByteArray) (w0 : World) (k : Nat) (iv tv bv : Value) (dv : Value) (ds bs is ts : List Value) (ni nt N : Nat) (w : World) : Prop where
  below : Below B w0 w
  file : w.heap[F]? = some (Obj.cells #[.string path, dv, .slice none 0 0] 38 (0, 0))
  od : w.ownsRow B 77 1 dv k ds
  ob : w.ownsRow B 46 1 bv (cnt S k) bs
  oi : w.ownsRow B 45 4 iv ni is
  ot : w.ownsRow B 62 1 tv nt ts
  num : ni + nt ≤ N
  decls : ∀ i, i < k → DeclIs S w ds bs i

variable {S : Specs} {B F : Nat} {path : ByteArray} {w0 : World} {k : Nat} {iv tv bv dv : Value} {ds bs is ts : List Value} {ni nt N : Nat} {w w' : World} {us : List TypeId}

/-- a round's step that leaves blocks of these kinds alone -/
theorem Inv.keep (h : Inv S B F path w0 k iv tv bv dv ds bs is ts ni nt N w) (hk : KeepT us w w') (hb : Below B w w') (h38 : 38 ∉ us) (h77 : 77 ∉ us) (h46 : 46 ∉ us) (h45 : 45 ∉ us) (h62 : 62 ∉ us) (h54 : 54 ∉ us) : Inv S B F path w0 k iv tv bv dv ds bs is ts ni nt N w' :=
  ⟨h.below.trans hb, hk.block _ _ _ _ h.file h38, hk.owns h.od h77, hk.owns h.ob h46, hk.owns h.oi h45, hk.owns h.ot h62, h.num, fun i hi => by simpa using (h.decls i hi).keep hk h54 [] []⟩
theorem Inv.size (h : Inv S B F path w0 k iv tv bv dv ds bs is ts ni nt N w) (hB : B ≤ F) : B ≤ w.heap.size := by
  have := (Array.getElem?_eq_some_iff.1 h.file).1; omega
theorem Inv.alloc (h : Inv S B F path w0 k iv tv bv dv ds bs is ts ni nt N w) (hB : B ≤ F) (o : Obj) : Inv S B F path w0 k iv tv bv dv ds bs is ts ni nt N (w.alloc o) :=
  h.keep ((KeepT.refl [] w).alloc o) ((Below.refl _ _).alloc (h.size hB) o) (by simp) (by simp) (by simp) (by simp) (by simp) (by simp)
theorem Inv.types (h : Inv S B F path w0 k iv tv bv dv ds bs is ts ni nt N w) (hk : KeepT [62, 61] w w') (hb : Below B w w') {tv' : Value} {ts' : List Value} {nt' N' : Nat} (ho : w'.ownsRow B 62 1 tv' nt' ts') (hn : ni + nt' ≤ N') : Inv S B F path w0 k iv tv' bv dv ds bs is ts' ni nt' N' w' :=
  ⟨h.below.trans hb, hk.block _ _ _ _ h.file (by decide), hk.owns h.od (by decide), hk.owns h.ob (by decide), hk.owns h.oi (by decide), ho, hn, fun i hi => by simpa using (h.decls i hi).keep hk (by decide) [] []⟩
theorem Inv.imps (h : Inv S B F path w0 k iv tv bv dv ds bs is ts ni nt N w) (hk : KeepT [45, 74] w w') (hb : Below B w w') {iv' : Value} {is' : List Value} {ni' N' : Nat} (ho : w'.ownsRow B 45 4 iv' ni' is') (hn : ni' + nt ≤ N') : Inv S B F path w0 k iv' tv bv dv ds bs is' ts ni' nt N' w' :=
  ⟨h.below.trans hb, hk.block _ _ _ _ h.file (by decide), hk.owns h.od (by decide), hk.owns h.ob (by decide), ho, hk.owns h.ot (by decide), hn, fun i hi => by simpa using (h.decls i hi).keep hk (by decide) [] []⟩

/-- another declaration than an info is added -/
theorem Inv.other (h : Inv S B F path w0 k iv tv bv dv ds bs is ts ni nt N w) {y : Value} {e : Ending} (hp : AddPost B F k (.string path) (.slice none 0 0) ds w y e w') (hy : Other y) (h1 : S.K k ≠ 1) : ∃ dv' ds', Inv S B F path w0 (k + 1) iv tv bv dv' ds' bs is ts ni nt N w' := by
  obtain ⟨_, g, cap, hF, ho, hk, hb⟩ := hp
  refine ⟨_, _, ⟨h.below.trans hb, hF, ho, ?_, hk.owns h.oi (by decide), hk.owns h.ot (by decide), h.num, fun i hi => ?_⟩⟩
  · have e : cnt S (k + 1) = cnt S k := by simp [cnt, h1]
    rw [e]; exact hk.owns h.ob (by decide)
  · by_cases hik : i < k
    · simpa using (h.decls i hik).keep hk (by decide) [y] []
    · obtain rfl : i = k := by omega
      have hl : ds.length = i := by simpa using h.od.1
      exact ⟨fun e => absurd e h1, fun _ => ⟨y, by rw [List.getElem?_append_right (by omega)]; simp [hl], hy⟩⟩

/-- an info is added -/
theorem Inv.info (h : Inv S B F path w0 k iv tv bv dv ds bs is ts ni nt N w) (hB : B ≤ F) {A : Nat} {p : Addr} (hA : w.heap[A]? = some (Obj.cells #[.pointer (some p)] 54 (0, 0))) {e : Ending} (hp : AddPost B F k (.string path) (.slice none 0 0) ds w (.iface 52 (.pointer (some ⟨A, 0, none⟩))) e w')
    (h1 : S.K k = 1) {w'' : World} {bv' : Value} {m : Nat} (hm : m = cnt S k + 1) (hg : (w'.alloc (.cells #[.pointer (some p)] 46)).grownBy w'' bv.ownBlock) (hob : w''.ownsRow B 46 1 bv' m (bs ++ [.pointer (some p)])) : ∃ dv' ds' bs', Inv S B F path w0 (k + 1) iv tv bv' dv' ds' bs' is ts ni nt N w'' := by
  subst hm
  obtain ⟨_, g, cap, hF, ho, hk, hb⟩ := hp
  have hob' := hk.owns h.ob (by decide)
  have hk2 : KeepT [46] w' w'' := (((KeepT.refl [] w').alloc _).trans (keep_grown (owns_alloc hob' _) hg)).mono (by simp)
  have hFl := (Array.getElem?_eq_some_iff.1 hF).1
  have hb2 : Below B w' w'' := ((Below.refl _ _).alloc (by omega) _).grown hg (by simp; omega) (own_le hob')
  have hk3 := hk.trans hk2
  refine ⟨_, _, bs ++ [.pointer (some p)], ⟨(h.below.trans hb).trans hb2, hk2.block _ _ _ _ hF (by decide), hk2.owns ho (by decide), ?_, hk3.owns h.oi (by decide), hk3.owns h.ot (by decide), h.num, fun i hi => ?_⟩⟩
  · have e : cnt S (k + 1) = cnt S k + 1 := by simp [cnt, h1]
    rw [e]; exact hob
  · by_cases hik : i < k
    · exact (h.decls i hik).keep hk3 (by decide) _ _
    · obtain rfl : i = k := by omega
      have hl : ds.length = i := by simpa using h.od.1
      have hl2 : bs.length = cnt S i := by simpa using h.ob.1
      exact ⟨fun _ => ⟨A, p, by rw [List.getElem?_append_right (by omega)]; simp [hl], hk3.block _ _ _ _ hA (by decide), by rw [List.getElem?_append_right (by omega)]; simp [hl2]⟩, fun e => absurd h1 e⟩

theorem heap3 (w : World) (o1 o2 o3 : Obj) : (((w.alloc o1).alloc o2).alloc o3).heap[w.heap.size + 1 + 1]? = some o3 := by
  have := heap_alloc_new ((w.alloc o1).alloc o2) o3
  simpa using this
/-- no block is both values' -/
def Apart (v1 v2 : Value) : Prop := ∀ g, ¬ (v1.ownBlock = some g ∧ v2.ownBlock = some g)
theorem Apart.symm {v1 v2 : Value} (h : Apart v1 v2) : Apart v2 v1 := fun g hg => h g ⟨hg.2, hg.1⟩
theorem apart_nil (v : Value) : Apart (.slice none 0 0) v := fun g hg => by simp [Value.ownBlock] at hg
/-- of two rows the one is appended to -/
theorem two_rows {e : TypeId} {s : Nat} {v1 v2 : Value} {n2 g n cap : Nat} {xs2 : List Value} (h2 : w.ownsRow B e s v2 n2 xs2) (ap : Apart v1 v2) (hg : w.grownBy w' v1.ownBlock) (hat : v1.ownBlock = some g ∨ g = w.heap.size) :
    w'.ownsRow B e s v2 n2 xs2 ∧ Apart (.slice (some ⟨g, 0, none⟩) n cap) v2 := by
  refine ⟨owns_grown h2 hg (fun k h e => ap k ⟨e, h⟩), fun k hk => ?_⟩
  have : g = k := by simpa [Value.ownBlock] using hk.1
  subst this
  rcases hat with h | h
  · exact ap g ⟨h, hk.2⟩
  · have := owns_lt h2 g hk.2; omega
end Go.Proofs.Qxb6613588a.Inv

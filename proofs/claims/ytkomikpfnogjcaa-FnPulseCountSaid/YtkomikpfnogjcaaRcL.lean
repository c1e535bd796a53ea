/- Symbols by a table. -/
import Derived.Test.YtkomikpfnogjcaaRcK
namespace Go.Proofs.Ytkomikpfnogjcaa
open Go Go.Vc
set_option maxRecDepth 100000

/-- A table: the total, then sums of which one is the total. -/
structure TabOk (total : Nat) (rest : List Nat) : Prop where
  lo : 1 ≤ total
  hi : total ≤ 65536
  le : ∀ x ∈ rest, x ≤ total
  mem : total ∈ rest
  len : rest.length ≤ 65535
def tabK (rest : List Nat) (sym : Nat) : Nat := rest.findIdx fun x => decide (sym < x)
def tabLow (rest : List Nat) (k : Nat) : Nat := if k = 0 then 0 else rest.getD (k - 1) 0
def Dec.icdf (d : Dec) (total : Nat) (rest : List Nat) : Nat × Dec :=
  let k := tabK rest (d.at total)
  (k, (d.cut (d.rng / total) (tabLow rest k) (rest.getD k 0) total).norm)
theorem tabK_spec {total sym : Nat} {rest : List Nat} (h : TabOk total rest) (hs : sym < total) :
    tabK rest sym < rest.length ∧ rest[tabK rest sym]? = some (rest.getD (tabK rest sym) 0) ∧ sym < rest.getD (tabK rest sym) 0 ∧ rest.getD (tabK rest sym) 0 ≤ total ∧ tabLow rest (tabK rest sym) ≤ sym ∧
      (∀ i, i < tabK rest sym → rest[i]? = some (rest.getD i 0) ∧ rest.getD i 0 ≤ sym) := by
  have hlt : tabK rest sym < rest.length := List.findIdx_lt_length.2 ⟨total, h.mem, by simpa using hs⟩
  have hget : ∀ i, i < rest.length → rest[i]? = some (rest.getD i 0) := fun i hi => by rw [List.getD_eq_getElem?_getD, List.getElem?_eq_getElem hi]; rfl
  have hk : sym < rest.getD (tabK rest sym) 0 := by
    have := List.findIdx_getElem (xs := rest) (p := fun x => decide (sym < x)) (w := hlt)
    rw [List.getD_eq_getElem?_getD, List.getElem?_eq_getElem hlt]
    have this : sym < rest[tabK rest sym] := of_decide_eq_true this
    simpa using this
  have hbelow : ∀ i, i < tabK rest sym → rest[i]? = some (rest.getD i 0) ∧ rest.getD i 0 ≤ sym := by
    intro i hi
    have := List.not_of_lt_findIdx (xs := rest) (p := fun x => decide (sym < x)) hi
    refine ⟨hget i (by omega), ?_⟩
    rw [List.getD_eq_getElem?_getD, List.getElem?_eq_getElem (by omega)]
    simp at this
    simpa using this
  refine ⟨hlt, hget _ hlt, hk, ?_, ?_, hbelow⟩
  · refine h.le _ ?_
    rw [List.getD_eq_getElem?_getD, List.getElem?_eq_getElem hlt]
    exact List.getElem_mem hlt
  · unfold tabLow
    split
    · omega
    · exact (hbelow _ (by omega)).2
theorem Dec.icdf_inv {d : Dec} {N total : Nat} {rest : List Nat} (h : d.inv N) (hN : N ≤ 1152921504606846976) (ht : TabOk total rest) : (d.icdf total rest).2.inv (N + 24) ∧ (d.icdf total rest).2.data = d.data ∧ (d.icdf total rest).2.rb = d.rb := by
  obtain ⟨a, b, c, e, f, g⟩ := tabK_spec ht (d.at_spec h ht.lo ht.hi).1
  exact Dec.cut_inv h hN ht.lo ht.hi f c e

def tabBlk (total : Nat) (rest : List Nat) : Blk := .vec true 76 (encI .u64) [] 1 ((total :: rest).map fun (x : Nat) => (x : Int))
theorem emb3 {d : Dec} {k : Blk} {e0 e : Env} (hk : k.ren [0, 1, 2] = k) (hl : k.live = true) (he : embE [0, 1, 2] e e0) : EmbS 3 ⟨e0, d.H ++ [k]⟩ ⟨e, d.H ++ [k]⟩ := by
  refine ⟨[0, 1, 2], ⟨rfl, ?_, ?_⟩, he⟩
  · show embH [0, 1, 2] (d.H ++ [k]) (d.H ++ [k]) [0, 1, 2]
    cases k with
    | dead => cases hl
    | cells T cs => exact ⟨rfl, rfl, rfl, rfl, congrArg some hk.symm, rfl, trivial⟩
    | vec wr T e bs wd xs => exact ⟨rfl, rfl, rfl, rfl, congrArg some hk.symm, by rw [hk]; rfl, trivial⟩
  · cases k with
    | dead => cases hl
    | cells T cs => rfl
    | vec wr T e bs wd xs => rfl
theorem tab_get {total : Nat} {rest : List Nat} {i x : Nat} (h : rest[i]? = some x) {j : Nat} (hj : j = i + 1) : ((total :: rest).map fun (x : Nat) => (x : Int))[j]? = some (x : Int) := by
  subst hj
  simp [h]
theorem symIcdf (w0 : World) {d : Dec} {N total : Nat} {rest : List Nat} (h : d.inv N) (hN : N ≤ 1152921504606846976) (ht : TabOk total rest) :
    CallsA Try.prog w0 42 [.c (.ptr 0 0), .c (.vec 2 (rest.length + 1))] (d.H ++ [tabBlk total rest]) fun r H => r = u32 (d.icdf total rest).1 ∧ H = (d.icdf total rest).2.H ++ [tabBlk total rest] := by
  have hlo := h.lo; have hhi := h.hi; have hv := h.val
  obtain ⟨a1, a2, a3, a4⟩ := d.at_spec h ht.lo ht.hi
  have hq := Nat.div_le_self d.rng total
  have hq2 := Nat.div_le_self d.val (d.rng / total)
  have htl := ht.lo; have hth := ht.hi; have hrl := ht.len
  refine callsA_of_ev c42_ ?_
  conv => whnf
  refine ⟨by omega, ?_⟩
  conv => whnf
  refine ⟨_, rfl, ?_⟩
  conv => whnf
  refine ⟨by omega, Or.inl ⟨fun c hc1 hc2 => ?_, fun hl => ?_, fun hl => ?_⟩⟩
  · conv => whnf
    simp (disch := omega) only [ntdiv, nwrap32]
    refine ⟨by omega, ?_⟩
    conv => whnf
    simp (disch := omega) only [ntdiv, nwrap32, nadd]
    refine ⟨by omega, ?_⟩
    conv => whnf
    simp (disch := omega) only [ntdiv, nwrap32, nadd, nwrap64]
    refine (localMin w0 _ _ _).mono ?_
    rintro _ _ ⟨rfl, rfl⟩
    have hat : total - min (d.val / (d.rng / total) + 1) total = d.at total := rfl
    have hle : min (d.val / (d.rng / total) + 1) total ≤ total := Nat.min_le_right _ _
    obtain ⟨s1, s2, s3, s4, s5, s6⟩ := tabK_spec ht a1
    conv => whnf
    rw [nwrap32 (n := min (d.val / (d.rng / total) + 1) total) (by omega), nsub hle, hat, nwrap32 (n := d.at total) (by omega)]
    refine Or.inl ?_
    conv => whnf
    refine ⟨{k : Nat // k ≤ tabK rest (d.at total)}, fun ⟨k, _⟩ => ⟨[(0, .o (.c (.ptr 0 0))), (1, .o (.c (.sli 2 1 1 rest.length (c - 1)))), (5, .o (.c (.val (.int .u32 total)))), (6, .o (.c (.val (.int .u32 (d.rng / total : Nat))))), (7, .o (.c (.val (.int .u32 (d.at total : Nat))))), (8, .o (.c (.val (.int .u32 k))))], d.H ++ [tabBlk total rest]⟩, fun k => tabK rest (d.at total) - k.1, ⟨⟨0, by omega⟩, emb3 rfl rfl ⟨rfl, rfl, rfl, rfl, rfl, rfl, trivial⟩⟩, fun ⟨k, hk⟩ => ?_⟩
    conv => whnf
    refine ⟨by omega, ?_⟩
    conv => whnf
    have hidx : ∀ i : Nat, 1 + ((i : Nat) : Int).toNat = i + 1 := fun i => by omega
    have hge : ∀ i, i ≤ tabK rest (d.at total) → rest[i]? = some (rest.getD i 0) ∧ rest.getD i 0 ≤ total := by
      intro i hi
      rcases Nat.lt_or_ge i (tabK rest (d.at total)) with h | h
      · exact ⟨(s6 i h).1, by have := (s6 i h).2; omega⟩
      · have : i = tabK rest (d.at total) := by omega
        subst this
        exact ⟨s2, s4⟩
    refine ⟨_, tab_get (hge k hk).1 (hidx k), ?_⟩
    have hle2 := (hge k hk).2
    conv => whnf
    rw [nwrap32 (n := rest.getD k 0) (by omega)]
    refine ⟨fun h1 => ?_, fun h1 => ?_⟩
    · have h1 : rest.getD k 0 ≤ d.at total := le_t h1
      have hlt : k < tabK rest (d.at total) := by
        rcases Nat.lt_or_ge k (tabK rest (d.at total)) with h | h
        · exact h
        · have : k = tabK rest (d.at total) := by omega
          subst this
          omega
      conv => whnf
      refine ⟨⟨k + 1, hlt⟩, emb3 rfl rfl ⟨rfl, rfl, rfl, rfl, rfl, ?_, trivial⟩, ?_⟩
      · refine eq_u32 ?_
        rw [nadd, nwrap32 (by omega)]
      · show _ - (k + 1) < _ - k
        omega
    · have h1 : d.at total < rest.getD k 0 := le_f h1
      have hkk : k = tabK rest (d.at total) := by
        rcases Nat.lt_or_ge k (tabK rest (d.at total)) with h | h
        · have := (s6 k h).2
          omega
        · omega
      have hfin : ∀ lo hi : Int, lo = (tabLow rest k : Nat) → hi = (rest.getD k 0 : Nat) → CallsA Try.prog w0 84 [.c (.ptr 0 0), .c (.val (.int .u32 (d.rng / total : Nat))), .c (.val (.int .u32 lo)), .c (.val (.int .u32 hi)), .c (.val (.int .u32 total))] (d.H ++ [tabBlk total rest]) fun r H => r = .t [] ∧ H = (d.icdf total rest).2.H ++ [tabBlk total rest] := by
        rintro _ _ rfl rfl
        subst hkk
        refine CallsA.lift (H0 := d.H) [0, 1] rfl ⟨rfl, rfl, rfl, rfl, trivial⟩ rfl (updateAt w0 h hN ht.lo ht.hi s5 s3 s4) ?_
        rintro _ _ ⟨rfl, rfl⟩
        exact ⟨rfl, rfl⟩
      have hres : (d.icdf total rest).1 = k := hkk.symm
      conv => whnf
      refine ⟨by omega, ?_⟩
      conv => whnf
      refine ⟨_, tab_get (hge k hk).1 (hidx k), ?_⟩
      conv => whnf
      refine Or.inl ?_
      conv => whnf
      refine ⟨fun h2 => ?_, fun h2 => ?_⟩
      · have h2 : k ≠ 0 := bne_t h2
        have hle3 := (hge (k - 1) (by omega)).2
        conv => whnf
        rw [nsub (a := k) (b := 1) (by omega), nwrap32 (n := k - 1) (by omega)]
        refine ⟨by omega, ?_⟩
        conv => whnf
        refine ⟨_, tab_get (hge (k - 1) (by omega)).1 (hidx (k - 1)), ?_⟩
        conv => whnf
        refine (hfin _ _ ?_ ?_).mono ?_
        · rw [nwrap32 (by omega)]
          unfold tabLow
          rw [if_neg h2]
        · rw [nwrap32 (by omega)]
        · rintro _ _ ⟨rfl, rfl⟩
          conv => whnf
          rw [hres]
          exact Or.inl ⟨rfl, rfl⟩
      · have h2 : k = 0 := bne_f h2
        conv => whnf
        refine (hfin _ _ ?_ ?_).mono ?_
        · unfold tabLow
          rw [if_pos h2]
        · rw [nwrap32 (by omega)]
        · rintro _ _ ⟨rfl, rfl⟩
          conv => whnf
          rw [hres]
          exact Or.inl ⟨rfl, rfl⟩
  · have : ((1 : Nat) : Int) = ((rest.length + 1 : Nat) : Int) := hl
    have h0 : rest.length = 0 := by omega
    have := ht.mem
    rw [List.length_eq_zero_iff.1 h0] at this
    cases this
  · omega
end Go.Proofs.Ytkomikpfnogjcaa

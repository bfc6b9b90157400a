-- PRINTED BY print.sh 35421559b90ae4d0a3588c463048766b98c2df88dd9212a6774a882060cdf62d: not written by this session
import Derived.Test.YtgidfhpcobpinaaDoorProg
import Derived.Below
import Derived.Deep.Draws
import Derived.Deep.AppendLies
import Derived.Maps.AppendAt
import Derived.OwnWalk
import Derived.Laws.BytesArg
import Derived.Laws.MakeOwn
import Derived.Laws.OwnMore
import Derived.Deep.OwnRows
import Derived.Tactics
import Derived.Lib.ConvBytes
import Derived.Laws.Slices
import Derived.WalkKit
import Derived.KernelRfl
import Derived.RowKit3
import Derived.Deep.LoopGhost
import Derived.Deep.QuietTactic
import Derived.BigQuiet
import Derived.WideLaws
import Derived.Deep.DeepCutAuto
import Derived.Deep.CutBlock
import Derived.Deep.RegionHeld3
import Derived.Laws.Rows
import Derived.Lib.AppendStr
import Derived.ArgAppend
import Derived.Laws.IdiomCopy
import Derived.OrdersHeld
import Derived.Laws.BitsLemmas
import Derived.RowKit
import Derived.Test.YtgidfhpcobpinaaDoorWWords
import Derived.Test.YtgidfhpcobpinaaDoorWLast
import Derived.Test.YtgidfhpcobpinaaDoorWTab
import Derived.Test.YtgidfhpcobpinaaDoorWFour
import Derived.Test.YtgidfhpcobpinaaDoorWQPut
import Derived.Test.YtgidfhpcobpinaaDoorWApart
import Derived.Test.YtgidfhpcobpinaaDoorWArr
import Derived.Test.YtgidfhpcobpinaaDoorWZeros
import Derived.Test.YtgidfhpcobpinaaDoorWFoot
import Derived.Test.YtgidfhpcobpinaaDoorWKept
import Derived.Test.YtgidfhpcobpinaaDoorWShare
import Derived.Test.YtgidfhpcobpinaaDoorWN
import Derived.Test.YtgidfhpcobpinaaDoorWFootNe
import Derived.Test.YtgidfhpcobpinaaDoorWAt
import Derived.Test.YtgidfhpcobpinaaDoorWEqStruct
import Derived.Test.YtgidfhpcobpinaaDoorWRepsOne
import Derived.Test.YtgidfhpcobpinaaDoorWInv
import Derived.Test.YtgidfhpcobpinaaDoorWInvWords
import Derived.Test.YtgidfhpcobpinaaDoorWGuard
import Derived.Test.YtgidfhpcobpinaaDoorWNEv
import Derived.Test.YtgidfhpcobpinaaDoorWMore
namespace Go.Proofs.YtgidfhpcobpinaaDoor.PFnGroupTokens
open Go.RowKit Go.Proofs.YtgidfhpcobpinaaDoorW.PrintWords Go.Proofs.YtgidfhpcobpinaaDoorW.PrintLast Go.Proofs.YtgidfhpcobpinaaDoorW.PrintMore
attribute [local go_sem] max2_int min2_int max_two min_two max_three min_three max_four min_four   -- for this text's walks alone
set_option linter.unusedVariables false
set_option linter.unusedSimpArgs false



def errW : Option Int → Value
  | none => .nilIface
  | some c => .iface 0 (.int .i64 c)
theorem errW_none : errW none = .nilIface := rfl
theorem errW_some (c : Int) : errW (some c) = .iface 0 (.int .i64 c) := rfl

theorem info3 : (Tryd.prog.info? 3).map (fun i => (i.zero, i.size, i.bytes)) = some (some (.int .i64 0), 1, 8) := by kernel_rfl
theorem info9 : (Tryd.prog.info? 9).map (fun i => (i.zero, i.size, i.bytes)) = some (some (.string ⟨#[]⟩), 1, 16) := by kernel_rfl
theorem info29 : (Tryd.prog.info? 29).map (fun i => (i.zero, i.size, i.bytes)) = some (some (.agg #[(.int .i64 0), (.int .i64 0), (.int .i64 0), (.string ⟨#[]⟩), (.string ⟨#[]⟩), (.string ⟨#[]⟩), (.int .i64 0), (.int .i64 0), (.int .i64 0), (.int .i64 0), (.int .i64 0), (.int .i64 0), (.int .i64 0)]), 13, 128) := by kernel_rfl
-- the values' own types
/-! #### struct type 27 -/
structure S27 where
  f0 : Int
  f1 : Int
  f2 : Int
  f3 : Int
  f4 : Int
def z27 : S27 := ⟨(0 : Int), (0 : Int), (0 : Int), (0 : Int), (0 : Int)⟩
def k27 : Kd S27 := Kd.iso (Kd.pair (Kd.int .i64) (Kd.pair (Kd.int .i64) (Kd.pair (Kd.int .i64) (Kd.pair (Kd.int .i64) (Kd.int .i64))))) (fun x : S27 => (x.f0, x.f1, x.f2, x.f3, x.f4))
theorem k27_open {w : World} {x : S27} {cs : List Value} (h : k27.K w x cs) : cs = [.int .i64 x.f0, .int .i64 x.f1, .int .i64 x.f2, .int .i64 x.f3, .int .i64 x.f4] := by
  obtain ⟨_, _, rfl, rfl, ⟨_, _, rfl, rfl, ⟨_, _, rfl, rfl, ⟨_, _, rfl, rfl, rfl⟩⟩⟩⟩ := h
  exact rfl
theorem k27_openM {w : World} {base : Nat} {ok : Nat → Prop} {x : S27} {cs : List Value} (h : k27.M w base ok x cs) : cs = [.int .i64 x.f0, .int .i64 x.f1, .int .i64 x.f2, .int .i64 x.f3, .int .i64 x.f4] := by
  obtain ⟨_, _, rfl, rfl, ⟨_, _, rfl, rfl, ⟨_, _, rfl, rfl, ⟨_, _, rfl, rfl, rfl⟩⟩⟩⟩ := h
  exact rfl
theorem k27_mk (w : World) (x : S27)  : k27.K w x [.int .i64 x.f0, .int .i64 x.f1, .int .i64 x.f2, .int .i64 x.f3, .int .i64 x.f4] := ⟨[.int .i64 x.f0], [.int .i64 x.f1, .int .i64 x.f2, .int .i64 x.f3, .int .i64 x.f4], rfl, rfl, ⟨[.int .i64 x.f1], [.int .i64 x.f2, .int .i64 x.f3, .int .i64 x.f4], rfl, rfl, ⟨[.int .i64 x.f2], [.int .i64 x.f3, .int .i64 x.f4], rfl, rfl, ⟨[.int .i64 x.f3], [.int .i64 x.f4], rfl, rfl, rfl⟩⟩⟩⟩
theorem k27_mkM (w : World) (base : Nat) (ok : Nat → Prop) (x : S27)  : k27.M w base ok x [.int .i64 x.f0, .int .i64 x.f1, .int .i64 x.f2, .int .i64 x.f3, .int .i64 x.f4] := ⟨[.int .i64 x.f0], [.int .i64 x.f1, .int .i64 x.f2, .int .i64 x.f3, .int .i64 x.f4], rfl, rfl, ⟨[.int .i64 x.f1], [.int .i64 x.f2, .int .i64 x.f3, .int .i64 x.f4], rfl, rfl, ⟨[.int .i64 x.f2], [.int .i64 x.f3, .int .i64 x.f4], rfl, rfl, ⟨[.int .i64 x.f3], [.int .i64 x.f4], rfl, rfl, rfl⟩⟩⟩⟩
def rd_T27 (xs : List S27) (i : Int) : S27 := xs.getD i.toNat z27
theorem at_T27 {w : World} {A : Option Addr} {n : Nat} {xs : List S27} (h : Kd.C k27 w A n xs) (i : Int) (h0 : 0 ≤ i) (h1 : i < n) : ∃ ad , A = some ad ∧ w.cell? (ad.add (i.toNat * 5)) = some (.int .i64 (rd_T27 xs i).f0) ∧ w.cell? ⟨(ad.add (i.toNat * 5)).block, (ad.add (i.toNat * 5)).off + 1, none⟩ = some (.int .i64 (rd_T27 xs i).f1) ∧ w.cell? ⟨(ad.add (i.toNat * 5)).block, (ad.add (i.toNat * 5)).off + 2, none⟩ = some (.int .i64 (rd_T27 xs i).f2) ∧ w.cell? ⟨(ad.add (i.toNat * 5)).block, (ad.add (i.toNat * 5)).off + 3, none⟩ = some (.int .i64 (rd_T27 xs i).f3) ∧ w.cell? ⟨(ad.add (i.toNat * 5)).block, (ad.add (i.toNat * 5)).off + 4, none⟩ = some (.int .i64 (rd_T27 xs i).f4) := by
  obtain ⟨ad, c, e, _, hK, hc0⟩ := Kd.C_get h z27 i h0 h1
  have hc : ∀ j u, c[j]? = some u → w.cell? (ad.add (i.toNat * 5 + j)) = some u := hc0
  obtain rfl := k27_open hK
  exact ⟨ad, e, hc 0 _ rfl, by rw [← add_field _ _ 1 (by omega)]; exact hc 1 _ rfl, by rw [← add_field _ _ 2 (by omega)]; exact hc 2 _ rfl, by rw [← add_field _ _ 3 (by omega)]; exact hc 3 _ rfl, by rw [← add_field _ _ 4 (by omega)]; exact hc 4 _ rfl⟩

/-! #### struct type 29 -/
structure S29 where
  f0 : Int
  f1 : Int
  f2 : Int
  f3 : ByteArray
  f4 : ByteArray
  f5 : ByteArray
  f6 : S27
  f7 : Int
  f8 : Int
def z29 : S29 := ⟨(0 : Int), (0 : Int), (0 : Int), (⟨#[]⟩ : ByteArray), (⟨#[]⟩ : ByteArray), (⟨#[]⟩ : ByteArray), z27, (0 : Int), (0 : Int)⟩
def k29 : Kd S29 := Kd.iso (Kd.pair (Kd.int .i64) (Kd.pair (Kd.int .i64) (Kd.pair (Kd.int .i64) (Kd.pair Kd.string (Kd.pair Kd.string (Kd.pair Kd.string (Kd.pair k27 (Kd.pair (Kd.int .i64) (Kd.int .i64))))))))) (fun x : S29 => (x.f0, x.f1, x.f2, x.f3, x.f4, x.f5, x.f6, x.f7, x.f8))
theorem k29_open {w : World} {x : S29} {cs : List Value} (h : k29.K w x cs) : cs = [.int .i64 x.f0, .int .i64 x.f1, .int .i64 x.f2, .string x.f3, .string x.f4, .string x.f5, .int .i64 x.f6.f0, .int .i64 x.f6.f1, .int .i64 x.f6.f2, .int .i64 x.f6.f3, .int .i64 x.f6.f4, .int .i64 x.f7, .int .i64 x.f8] := by
  obtain ⟨_, _, rfl, rfl, ⟨_, _, rfl, rfl, ⟨_, _, rfl, rfl, ⟨_, _, rfl, rfl, ⟨_, _, rfl, rfl, ⟨_, _, rfl, rfl, ⟨_, _, rfl, s6, ⟨_, _, rfl, rfl, rfl⟩⟩⟩⟩⟩⟩⟩⟩ := h
  obtain rfl := k27_open s6
  exact rfl
theorem k29_openM {w : World} {base : Nat} {ok : Nat → Prop} {x : S29} {cs : List Value} (h : k29.M w base ok x cs) : cs = [.int .i64 x.f0, .int .i64 x.f1, .int .i64 x.f2, .string x.f3, .string x.f4, .string x.f5, .int .i64 x.f6.f0, .int .i64 x.f6.f1, .int .i64 x.f6.f2, .int .i64 x.f6.f3, .int .i64 x.f6.f4, .int .i64 x.f7, .int .i64 x.f8] := by
  obtain ⟨_, _, rfl, rfl, ⟨_, _, rfl, rfl, ⟨_, _, rfl, rfl, ⟨_, _, rfl, rfl, ⟨_, _, rfl, rfl, ⟨_, _, rfl, rfl, ⟨_, _, rfl, s6, ⟨_, _, rfl, rfl, rfl⟩⟩⟩⟩⟩⟩⟩⟩ := h
  obtain rfl := k27_openM s6
  exact rfl
theorem k29_mk (w : World) (x : S29)  : k29.K w x [.int .i64 x.f0, .int .i64 x.f1, .int .i64 x.f2, .string x.f3, .string x.f4, .string x.f5, .int .i64 x.f6.f0, .int .i64 x.f6.f1, .int .i64 x.f6.f2, .int .i64 x.f6.f3, .int .i64 x.f6.f4, .int .i64 x.f7, .int .i64 x.f8] := ⟨[.int .i64 x.f0], [.int .i64 x.f1, .int .i64 x.f2, .string x.f3, .string x.f4, .string x.f5, .int .i64 x.f6.f0, .int .i64 x.f6.f1, .int .i64 x.f6.f2, .int .i64 x.f6.f3, .int .i64 x.f6.f4, .int .i64 x.f7, .int .i64 x.f8], rfl, rfl, ⟨[.int .i64 x.f1], [.int .i64 x.f2, .string x.f3, .string x.f4, .string x.f5, .int .i64 x.f6.f0, .int .i64 x.f6.f1, .int .i64 x.f6.f2, .int .i64 x.f6.f3, .int .i64 x.f6.f4, .int .i64 x.f7, .int .i64 x.f8], rfl, rfl, ⟨[.int .i64 x.f2], [.string x.f3, .string x.f4, .string x.f5, .int .i64 x.f6.f0, .int .i64 x.f6.f1, .int .i64 x.f6.f2, .int .i64 x.f6.f3, .int .i64 x.f6.f4, .int .i64 x.f7, .int .i64 x.f8], rfl, rfl, ⟨[.string x.f3], [.string x.f4, .string x.f5, .int .i64 x.f6.f0, .int .i64 x.f6.f1, .int .i64 x.f6.f2, .int .i64 x.f6.f3, .int .i64 x.f6.f4, .int .i64 x.f7, .int .i64 x.f8], rfl, rfl, ⟨[.string x.f4], [.string x.f5, .int .i64 x.f6.f0, .int .i64 x.f6.f1, .int .i64 x.f6.f2, .int .i64 x.f6.f3, .int .i64 x.f6.f4, .int .i64 x.f7, .int .i64 x.f8], rfl, rfl, ⟨[.string x.f5], [.int .i64 x.f6.f0, .int .i64 x.f6.f1, .int .i64 x.f6.f2, .int .i64 x.f6.f3, .int .i64 x.f6.f4, .int .i64 x.f7, .int .i64 x.f8], rfl, rfl, ⟨[.int .i64 x.f6.f0, .int .i64 x.f6.f1, .int .i64 x.f6.f2, .int .i64 x.f6.f3, .int .i64 x.f6.f4], [.int .i64 x.f7, .int .i64 x.f8], rfl, (k27_mk w x.f6 ), ⟨[.int .i64 x.f7], [.int .i64 x.f8], rfl, rfl, rfl⟩⟩⟩⟩⟩⟩⟩⟩
theorem k29_mkM (w : World) (base : Nat) (ok : Nat → Prop) (x : S29)  : k29.M w base ok x [.int .i64 x.f0, .int .i64 x.f1, .int .i64 x.f2, .string x.f3, .string x.f4, .string x.f5, .int .i64 x.f6.f0, .int .i64 x.f6.f1, .int .i64 x.f6.f2, .int .i64 x.f6.f3, .int .i64 x.f6.f4, .int .i64 x.f7, .int .i64 x.f8] := ⟨[.int .i64 x.f0], [.int .i64 x.f1, .int .i64 x.f2, .string x.f3, .string x.f4, .string x.f5, .int .i64 x.f6.f0, .int .i64 x.f6.f1, .int .i64 x.f6.f2, .int .i64 x.f6.f3, .int .i64 x.f6.f4, .int .i64 x.f7, .int .i64 x.f8], rfl, rfl, ⟨[.int .i64 x.f1], [.int .i64 x.f2, .string x.f3, .string x.f4, .string x.f5, .int .i64 x.f6.f0, .int .i64 x.f6.f1, .int .i64 x.f6.f2, .int .i64 x.f6.f3, .int .i64 x.f6.f4, .int .i64 x.f7, .int .i64 x.f8], rfl, rfl, ⟨[.int .i64 x.f2], [.string x.f3, .string x.f4, .string x.f5, .int .i64 x.f6.f0, .int .i64 x.f6.f1, .int .i64 x.f6.f2, .int .i64 x.f6.f3, .int .i64 x.f6.f4, .int .i64 x.f7, .int .i64 x.f8], rfl, rfl, ⟨[.string x.f3], [.string x.f4, .string x.f5, .int .i64 x.f6.f0, .int .i64 x.f6.f1, .int .i64 x.f6.f2, .int .i64 x.f6.f3, .int .i64 x.f6.f4, .int .i64 x.f7, .int .i64 x.f8], rfl, rfl, ⟨[.string x.f4], [.string x.f5, .int .i64 x.f6.f0, .int .i64 x.f6.f1, .int .i64 x.f6.f2, .int .i64 x.f6.f3, .int .i64 x.f6.f4, .int .i64 x.f7, .int .i64 x.f8], rfl, rfl, ⟨[.string x.f5], [.int .i64 x.f6.f0, .int .i64 x.f6.f1, .int .i64 x.f6.f2, .int .i64 x.f6.f3, .int .i64 x.f6.f4, .int .i64 x.f7, .int .i64 x.f8], rfl, rfl, ⟨[.int .i64 x.f6.f0, .int .i64 x.f6.f1, .int .i64 x.f6.f2, .int .i64 x.f6.f3, .int .i64 x.f6.f4], [.int .i64 x.f7, .int .i64 x.f8], rfl, (k27_mkM w base ok x.f6 ), ⟨[.int .i64 x.f7], [.int .i64 x.f8], rfl, rfl, rfl⟩⟩⟩⟩⟩⟩⟩⟩
def rd_T29 (xs : List S29) (i : Int) : S29 := xs.getD i.toNat z29
theorem at_T29 {w : World} {A : Option Addr} {n : Nat} {xs : List S29} (h : Kd.C k29 w A n xs) (i : Int) (h0 : 0 ≤ i) (h1 : i < n) : ∃ ad , A = some ad ∧ w.cell? (ad.add (i.toNat * 13)) = some (.int .i64 (rd_T29 xs i).f0) ∧ w.cell? ⟨(ad.add (i.toNat * 13)).block, (ad.add (i.toNat * 13)).off + 1, none⟩ = some (.int .i64 (rd_T29 xs i).f1) ∧ w.cell? ⟨(ad.add (i.toNat * 13)).block, (ad.add (i.toNat * 13)).off + 2, none⟩ = some (.int .i64 (rd_T29 xs i).f2) ∧ w.cell? ⟨(ad.add (i.toNat * 13)).block, (ad.add (i.toNat * 13)).off + 3, none⟩ = some (.string (rd_T29 xs i).f3) ∧ w.cell? ⟨(ad.add (i.toNat * 13)).block, (ad.add (i.toNat * 13)).off + 4, none⟩ = some (.string (rd_T29 xs i).f4) ∧ w.cell? ⟨(ad.add (i.toNat * 13)).block, (ad.add (i.toNat * 13)).off + 5, none⟩ = some (.string (rd_T29 xs i).f5) ∧ w.cell? ⟨(ad.add (i.toNat * 13)).block, (ad.add (i.toNat * 13)).off + 6, none⟩ = some (.int .i64 (rd_T29 xs i).f6.f0) ∧ w.cell? ⟨(ad.add (i.toNat * 13)).block, (ad.add (i.toNat * 13)).off + 7, none⟩ = some (.int .i64 (rd_T29 xs i).f6.f1) ∧ w.cell? ⟨(ad.add (i.toNat * 13)).block, (ad.add (i.toNat * 13)).off + 8, none⟩ = some (.int .i64 (rd_T29 xs i).f6.f2) ∧ w.cell? ⟨(ad.add (i.toNat * 13)).block, (ad.add (i.toNat * 13)).off + 9, none⟩ = some (.int .i64 (rd_T29 xs i).f6.f3) ∧ w.cell? ⟨(ad.add (i.toNat * 13)).block, (ad.add (i.toNat * 13)).off + 10, none⟩ = some (.int .i64 (rd_T29 xs i).f6.f4) ∧ w.cell? ⟨(ad.add (i.toNat * 13)).block, (ad.add (i.toNat * 13)).off + 11, none⟩ = some (.int .i64 (rd_T29 xs i).f7) ∧ w.cell? ⟨(ad.add (i.toNat * 13)).block, (ad.add (i.toNat * 13)).off + 12, none⟩ = some (.int .i64 (rd_T29 xs i).f8) := by
  obtain ⟨ad, c, e, _, hK, hc0⟩ := Kd.C_get h z29 i h0 h1
  have hc : ∀ j u, c[j]? = some u → w.cell? (ad.add (i.toNat * 13 + j)) = some u := hc0
  obtain rfl := k29_open hK
  exact ⟨ad, e, hc 0 _ rfl, by rw [← add_field _ _ 1 (by omega)]; exact hc 1 _ rfl, by rw [← add_field _ _ 2 (by omega)]; exact hc 2 _ rfl, by rw [← add_field _ _ 3 (by omega)]; exact hc 3 _ rfl, by rw [← add_field _ _ 4 (by omega)]; exact hc 4 _ rfl, by rw [← add_field _ _ 5 (by omega)]; exact hc 5 _ rfl, by rw [← add_field _ _ 6 (by omega)]; exact hc 6 _ rfl, by rw [← add_field _ _ 7 (by omega)]; exact hc 7 _ rfl, by rw [← add_field _ _ 8 (by omega)]; exact hc 8 _ rfl, by rw [← add_field _ _ 9 (by omega)]; exact hc 9 _ rfl, by rw [← add_field _ _ 10 (by omega)]; exact hc 10 _ rfl, by rw [← add_field _ _ 11 (by omega)]; exact hc 11 _ rfl, by rw [← add_field _ _ 12 (by omega)]; exact hc 12 _ rfl⟩

/-! #### struct type 66, nested in itself -/
structure S66 where
  f0 : Int
  f1 : Int
  f2 : Int
  f3 : (List S66)
def z66 : S66 := ⟨(0 : Int), (0 : Int), (0 : Int), ([] : List S66)⟩
def F66 (d : Kd S66) : Kd S66 := Kd.iso (Kd.pair (Kd.int .i64) (Kd.pair (Kd.int .i64) (Kd.pair (Kd.int .i64) (Kd.slice 66 d)))) (fun x : S66 => (x.f0, x.f1, x.f2, x.f3))
theorem mono66 : Kd.Mono F66 := Kd.mono_iso _ (Kd.mono_pair (Kd.mono_const _) (Kd.mono_pair (Kd.mono_const _) (Kd.mono_pair (Kd.mono_const _) (Kd.mono_slice 66 Kd.mono_id))))
theorem sub66 : Kd.Sub F66 [66] := Kd.sub_iso _ (Kd.sub_pair (Kd.sub_const _ (by decide)) (Kd.sub_pair (Kd.sub_const _ (by decide)) (Kd.sub_pair (Kd.sub_const _ (by decide)) (Kd.sub_slice 66 (by decide) Kd.sub_id))))
theorem sz66 : ∀ n, (Kd.upto F66 4 [66] n).sz = 4 := Kd.upto_sz (fun _ => rfl)
def k66 : Kd S66 := Kd.fix F66 4 [66] sz66 (Kd.upto_E sub66)
theorem k66_open {w : World} {x : S66} {cs : List Value} (h : k66.K w x cs) : ∃ A3 c3, cs = [.int .i64 x.f0, .int .i64 x.f1, .int .i64 x.f2, .slice A3 x.f3.length c3] ∧ x.f3.length ≤ c3 ∧ k66.C w A3 x.f3.length x.f3 := by
  obtain ⟨n, h⟩ := h
  cases n with
  | zero => exact h.elim
  | succ n =>
    obtain ⟨_, _, rfl, rfl, ⟨_, _, rfl, rfl, ⟨_, _, rfl, rfl, ⟨A3, c3, rfl, l3, g3⟩⟩⟩⟩ := h
    exact ⟨A3, c3, rfl, l3, Kd.fix_C g3⟩
theorem k66_openM {w : World} {base : Nat} {ok : Nat → Prop} {x : S66} {cs : List Value} (h : k66.M w base ok x cs) : ∃ v3, cs = [.int .i64 x.f0, .int .i64 x.f1, .int .i64 x.f2, v3] ∧ k66.R 66 w base ok v3 x.f3 := by
  obtain ⟨n, h⟩ := h
  cases n with
  | zero => exact h.elim
  | succ n =>
    obtain ⟨_, _, rfl, rfl, ⟨_, _, rfl, rfl, ⟨_, _, rfl, rfl, ⟨v3, rfl, g3⟩⟩⟩⟩ := h
    exact ⟨v3, rfl, Kd.fix_R g3⟩
theorem k66_mk (w : World) (x : S66) {A3 : Option Addr} {c3 : Nat} (l3 : x.f3.length ≤ c3) (g3 : k66.C w A3 x.f3.length x.f3) : k66.K w x [.int .i64 x.f0, .int .i64 x.f1, .int .i64 x.f2, .slice A3 x.f3.length c3] := by
  obtain ⟨n3, q3⟩ := Kd.fix_C_back mono66 g3
  have r3 := Kd.upto_C_le mono66 sz66 (show n3 ≤ n3 by omega) q3
  exact ⟨n3 + 1, ⟨[.int .i64 x.f0], [.int .i64 x.f1, .int .i64 x.f2, .slice A3 x.f3.length c3], rfl, rfl, ⟨[.int .i64 x.f1], [.int .i64 x.f2, .slice A3 x.f3.length c3], rfl, rfl, ⟨[.int .i64 x.f2], [.slice A3 x.f3.length c3], rfl, rfl, ⟨A3, c3, rfl, l3, r3⟩⟩⟩⟩⟩
theorem k66_mkM (w : World) (base : Nat) (ok : Nat → Prop) (x : S66) {v3 : Value} (g3 : k66.R 66 w base ok v3 x.f3) : k66.M w base ok x [.int .i64 x.f0, .int .i64 x.f1, .int .i64 x.f2, v3] := by
  obtain ⟨n3, q3⟩ := Kd.fix_R_back mono66 g3
  have r3 := Kd.upto_R_le mono66 sz66 (show n3 ≤ n3 by omega) q3
  exact ⟨n3 + 1, ⟨[.int .i64 x.f0], [.int .i64 x.f1, .int .i64 x.f2, v3], rfl, rfl, ⟨[.int .i64 x.f1], [.int .i64 x.f2, v3], rfl, rfl, ⟨[.int .i64 x.f2], [v3], rfl, rfl, ⟨v3, rfl, r3⟩⟩⟩⟩⟩
def rd_T66 (xs : List S66) (i : Int) : S66 := xs.getD i.toNat z66
theorem at_T66 {w : World} {A : Option Addr} {n : Nat} {xs : List S66} (h : Kd.C k66 w A n xs) (i : Int) (h0 : 0 ≤ i) (h1 : i < n) : ∃ ad A3 c3, A = some ad ∧ w.cell? (ad.add (i.toNat * 4)) = some (.int .i64 (rd_T66 xs i).f0) ∧ w.cell? ⟨(ad.add (i.toNat * 4)).block, (ad.add (i.toNat * 4)).off + 1, none⟩ = some (.int .i64 (rd_T66 xs i).f1) ∧ w.cell? ⟨(ad.add (i.toNat * 4)).block, (ad.add (i.toNat * 4)).off + 2, none⟩ = some (.int .i64 (rd_T66 xs i).f2) ∧ w.cell? ⟨(ad.add (i.toNat * 4)).block, (ad.add (i.toNat * 4)).off + 3, none⟩ = some (.slice A3 (rd_T66 xs i).f3.length c3) ∧ (rd_T66 xs i).f3.length ≤ c3 ∧ k66.C w A3 (rd_T66 xs i).f3.length (rd_T66 xs i).f3 := by
  obtain ⟨ad, c, e, _, hK, hc0⟩ := Kd.C_get h z66 i h0 h1
  have hc : ∀ j u, c[j]? = some u → w.cell? (ad.add (i.toNat * 4 + j)) = some u := hc0
  obtain ⟨A3, c3, rfl, l3, g3⟩ := k66_open hK
  exact ⟨ad, A3, c3, e, hc 0 _ rfl, by rw [← add_field _ _ 1 (by omega)]; exact hc 1 _ rfl, by rw [← add_field _ _ 2 (by omega)]; exact hc 2 _ rfl, by rw [← add_field _ _ 3 (by omega)]; exact hc 3 _ rfl, l3, g3⟩

end Go.Proofs.YtgidfhpcobpinaaDoor.PFnGroupTokens

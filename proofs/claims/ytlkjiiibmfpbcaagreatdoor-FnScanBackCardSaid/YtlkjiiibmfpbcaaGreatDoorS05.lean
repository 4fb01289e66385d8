/- The table of the program's types and functions, as the verification condition asks for them. No condition. Printed by wip/gen/mktab.py. -/
import Derived.KernelRfl
import Derived.Test.YtlkjiiibmfpbcaaGreatDoorS04
import Derived.Test.YtlkjiiibmfpbcaaGreatDoorProg
namespace Go.Proofs.YtlkjiiibmfpbcaaGreatDoor
open Go
set_option maxRecDepth 100000
def tyLook:List (Nat × TRow)→Nat→Option TRow
 | [],_=>none
 | (s,r) :: l,t=>match Nat.beq s t with
  | true=>some r
  | false=>tyLook l t
def tyRows:List (Nat × TRow):=[
 (0,⟨.tuple [],1,0,(.tuple #[])⟩),
 (2,⟨.int .i64,1,8,(.int .i64 0)⟩),
 (3,⟨.int .i64,1,8,(.int .i64 0)⟩),
 (4,⟨.bool,1,1,(.bool .false)⟩),
 (5,⟨.int .u8,1,1,(.int .u8 0)⟩),
 (9,⟨.str,1,16,(.string (ByteArray.mk #[]))⟩),
 (20,⟨.iface,1,16,.nilIface⟩),
 (21,⟨.int .i32,1,4,(.int .i32 0)⟩),
 (22,⟨.slice 38,1,24,(.slice none 0 0)⟩),
 (26,⟨.slice 3,1,24,(.slice none 0 0)⟩),
 (28,⟨.tuple [22,4],1,0,(.tuple #[(.slice none 0 0),(.bool .false)])⟩),
 (37,⟨.slice 22,1,24,(.slice none 0 0)⟩),
 (38,⟨.int .u64,1,8,(.int .u64 0)⟩),
 (40,⟨.ptr,1,8,(.pointer none)⟩),
 (44,⟨.slice 61,1,24,(.slice none 0 0)⟩),
 (45,⟨.slice 61,1,24,(.slice none 0 0)⟩),
 (47,⟨.struct [(0,1),(1,1)],2,32,(.agg #[(.bool .false),(.slice none 0 0)])⟩),
 (49,⟨.tuple [26,26],1,0,(.tuple #[(.slice none 0 0),(.slice none 0 0)])⟩),
 (55,⟨.slice 5,1,24,(.slice none 0 0)⟩),
 (56,⟨.tuple [26,3],1,0,(.tuple #[(.slice none 0 0),(.int .i64 0)])⟩),
 (59,⟨.tuple [40,4],1,0,(.tuple #[(.pointer none),(.bool .false)])⟩),
 (61,⟨.int .u64,1,8,(.int .u64 0)⟩),
 (71,⟨.ptr,1,8,(.pointer none)⟩),
 (80,⟨.float,1,8,(.float .f64 0)⟩),
 (83,⟨.ptr,1,8,(.pointer none)⟩),
 (85,⟨.tuple [61,3],1,0,(.tuple #[(.int .u64 0),(.int .i64 0)])⟩),
 (87,⟨.slice 128,1,24,(.slice none 0 0)⟩),
 (93,⟨.iface,1,16,.nilIface⟩),
 (95,⟨.iface,1,16,.nilIface⟩),
 (96,⟨.tuple [40,3,95],1,0,(.tuple #[(.pointer none),(.int .i64 0),.nilIface])⟩),
 (98,⟨.tuple [5,95],1,0,(.tuple #[(.int .u8 0),.nilIface])⟩),
 (101,⟨.struct [(0,1),(1,1),(2,1)],3,32,(.agg #[(.string (ByteArray.mk #[])),(.int .i64 0),(.int .i64 0)])⟩),
 (103,⟨.int .u64,1,8,(.int .u64 0)⟩),
 (107,⟨.ptr,1,8,(.pointer none)⟩),
 (112,⟨.tuple [38,4],1,0,(.tuple #[(.int .u64 0),(.bool .false)])⟩),
 (117,⟨.tuple [45,45],1,0,(.tuple #[(.slice none 0 0),(.slice none 0 0)])⟩),
 (122,⟨.int .u32,1,4,(.int .u32 0)⟩),
 (124,⟨.ptr,1,8,(.pointer none)⟩),
 (126,⟨.struct [(0,1)],1,8,(.agg #[(.pointer none)])⟩),
 (128,⟨.struct [(0,1),(1,1),(2,1)],3,40,(.agg #[(.slice none 0 0),(.int .i64 0),(.int .i64 0)])⟩),
 (132,⟨.tuple [45,61],1,0,(.tuple #[(.slice none 0 0),(.int .u64 0)])⟩),
 (134,⟨.tuple [4,95],1,0,(.tuple #[(.bool .false),.nilIface])⟩),
 (136,⟨.tuple [45,3,3,95],1,0,(.tuple #[(.slice none 0 0),(.int .i64 0),(.int .i64 0),.nilIface])⟩),
 (138,⟨.tuple [40,40],1,0,(.tuple #[(.pointer none),(.pointer none)])⟩),
 (143,⟨.arr 16 45,16,384,(.agg #[(.slice none 0 0),(.slice none 0 0),(.slice none 0 0),(.slice none 0 0),(.slice none 0 0),(.slice none 0 0),(.slice none 0 0),(.slice none 0 0),(.slice none 0 0),(.slice none 0 0),(.slice none 0 0),(.slice none 0 0),(.slice none 0 0),(.slice none 0 0),(.slice none 0 0),(.slice none 0 0)])⟩),
 (145,⟨.ptr,1,8,(.pointer none)⟩),
 (148,⟨.tuple [61,61],1,0,(.tuple #[(.int .u64 0),(.int .u64 0)])⟩),
 (155,⟨.tuple [38,38],1,0,(.tuple #[(.int .u64 0),(.int .u64 0)])⟩),
 (157,⟨.tuple [80,3],1,0,(.tuple #[(.float .f64 0),(.int .i64 0)])⟩),
 (159,⟨.arr 32 5,32,32,(.agg #[(.int .u8 0),(.int .u8 0),(.int .u8 0),(.int .u8 0),(.int .u8 0),(.int .u8 0),(.int .u8 0),(.int .u8 0),(.int .u8 0),(.int .u8 0),(.int .u8 0),(.int .u8 0),(.int .u8 0),(.int .u8 0),(.int .u8 0),(.int .u8 0),(.int .u8 0),(.int .u8 0),(.int .u8 0),(.int .u8 0),(.int .u8 0),(.int .u8 0),(.int .u8 0),(.int .u8 0),(.int .u8 0),(.int .u8 0),(.int .u8 0),(.int .u8 0),(.int .u8 0),(.int .u8 0),(.int .u8 0),(.int .u8 0)])⟩),
 (160,⟨.arr 64 5,64,64,(.agg #[(.int .u8 0),(.int .u8 0),(.int .u8 0),(.int .u8 0),(.int .u8 0),(.int .u8 0),(.int .u8 0),(.int .u8 0),(.int .u8 0),(.int .u8 0),(.int .u8 0),(.int .u8 0),(.int .u8 0),(.int .u8 0),(.int .u8 0),(.int .u8 0),(.int .u8 0),(.int .u8 0),(.int .u8 0),(.int .u8 0),(.int .u8 0),(.int .u8 0),(.int .u8 0),(.int .u8 0),(.int .u8 0),(.int .u8 0),(.int .u8 0),(.int .u8 0),(.int .u8 0),(.int .u8 0),(.int .u8 0),(.int .u8 0),(.int .u8 0),(.int .u8 0),(.int .u8 0),(.int .u8 0),(.int .u8 0),(.int .u8 0),(.int .u8 0),(.int .u8 0),(.int .u8 0),(.int .u8 0),(.int .u8 0),(.int .u8 0),(.int .u8 0),(.int .u8 0),(.int .u8 0),(.int .u8 0),(.int .u8 0),(.int .u8 0),(.int .u8 0),(.int .u8 0),(.int .u8 0),(.int .u8 0),(.int .u8 0),(.int .u8 0),(.int .u8 0),(.int .u8 0),(.int .u8 0),(.int .u8 0),(.int .u8 0),(.int .u8 0),(.int .u8 0),(.int .u8 0)])⟩),
 (162,⟨.struct [(0,1)],1,24,(.agg #[(.slice none 0 0)])⟩),
 (167,⟨.tuple [61,61,61,61,4],1,0,(.tuple #[(.int .u64 0),(.int .u64 0),(.int .u64 0),(.int .u64 0),(.bool .false)])⟩),
 (170,⟨.tuple [40,40,40,40,40],1,0,(.tuple #[(.pointer none),(.pointer none),(.pointer none),(.pointer none),(.pointer none)])⟩),
 (178,⟨.tuple [122,122],1,0,(.tuple #[(.int .u32 0),(.int .u32 0)])⟩),
 (180,⟨.tuple [103,103],1,0,(.tuple #[(.int .u64 0),(.int .u64 0)])⟩),
 (196,⟨.ptr,1,8,(.pointer none)⟩),
 (213,⟨.struct [(0,1)],1,16,(.agg #[(.string (ByteArray.mk #[]))])⟩)]
def fnIds:List Nat:=[3,4,5,6,7,8,9,10,11,12,13,14,15,16,17,18,19,20,21,22,23,24,25,26,27,28,29,30,31,32,33,34,35,36,37,38,39,40,41,42,43,44,45,46,47,48,49,50,51,52,53,54,55,56,57,58,59,60,61,62,63,64,65,66,67,68,69,70,71,72,73,74,75,76,77,78,79,80,81,82,83,84,85,86,87,88,89,90,91,92,93,94,95,96,97,98,99,100,101,102,103,104,105,106,107,108,109,110,111,112,113,114,115,116,117,118,119,120,121,122,123,124,125,126,127,128,129,130,131,132,133,134,135,136,137,138,139,140,141,142,143,144,145,146,147,148,149,150,151,152,154,155,157,158,159,160,161,162,163,164,165,166,167,168,169,170,171,172,173,174,177,178,179,180,182,183,203,204,205]
def fnIn:List Nat→Nat→Bool
 | [],_=>false
 | s :: l,t=>match Nat.beq s t with
  | true=>true
  | false=>fnIn l t
def tab:Tab:=⟨tyLook tyRows,fnIn fnIds⟩
theorem tyLook_spec {Q:Nat→TRow→Prop}:∀ (l:List (Nat × TRow)),(∀ p∈l,Q p.1 p.2)→∀ t r,tyLook l t=some r→Q t r
 | [],_,t,r,h=>by simp [tyLook] at h
 | (s,x) :: l,hl,t,r,h=>by
  simp only [tyLook] at h
  split at h
  ·rename_i hb
   have:=Nat.eq_of_beq_eq_true hb
   subst this
   simp only [Option.some.injEq] at h
   subst h
   exact hl (s,x) (by simp)
  ·exact tyLook_spec l (fun p hp=>hl p (by simp [hp])) t r h
theorem fnIn_spec {Q:Nat→Prop}:∀ (l:List Nat),(∀ p∈l,Q p)→∀ t,fnIn l t=true→Q t
 | [],_,t,h=>by simp [fnIn] at h
 | s :: l,hl,t,h=>by
  simp only [fnIn] at h
  split at h
  ·rename_i hb
   have:=Nat.eq_of_beq_eq_true hb
   subst this
   exact hl s (by simp)
  ·exact fnIn_spec l (fun p hp=>hl p (by simp [hp])) t h
def strK0:ByteArray:=ByteArray.mk #[48,49,50,51,52,53,54,55,56,57,97,98,99,100,101,102,103,104,105,106,107,108,109,110,111,112,113,114,115,116,117,118,119,120,121,122,65,66,67,68,69,70,71,72,73,74,75,76,77,78,79,80,81,82,83,84,85,86,87,88,89,90]
def strK7:ByteArray:=ByteArray.mk #[0,1,2,2,3,3,3,3,4,4,4,4,4,4,4,4,5,5,5,5,5,5,5,5,5,5,5,5,5,5,5,5,6,6,6,6,6,6,6,6,6,6,6,6,6,6,6,6,6,6,6,6,6,6,6,6,6,6,6,6,6,6,6,6,7,7,7,7,7,7,7,7,7,7,7,7,7,7,7,7,7,7,7,7,7,7,7,7,7,7,7,7,7,7,7,7,7,7,7,7,7,7,7,7,7,7,7,7,7,7,7,7,7,7,7,7,7,7,7,7,7,7,7,7,7,7,7,7,8,8,8,8,8,8,8,8,8,8,8,8,8,8,8,8,8,8,8,8,8,8,8,8,8,8,8,8,8,8,8,8,8,8,8,8,8,8,8,8,8,8,8,8,8,8,8,8,8,8,8,8,8,8,8,8,8,8,8,8,8,8,8,8,8,8,8,8,8,8,8,8,8,8,8,8,8,8,8,8,8,8,8,8,8,8,8,8,8,8,8,8,8,8,8,8,8,8,8,8,8,8,8,8,8,8,8,8,8,8,8,8,8,8,8,8,8,8,8,8,8,8,8,8,8,8,8,8]
def strK10:ByteArray:=ByteArray.mk #[115,116,114,105,110,103,115,46,82,101,97,100,101,114,46,85,110,114,101,97,100,66,121,116,101,58,32,97,116,32,98,101,103,105,110,110,105,110,103,32,111,102,32,115,116,114,105,110,103]
theorem row0:rowOk Tryz.prog 0 ⟨.tuple [],1,0,(.tuple #[])⟩:=⟨⟨Tryz.t0,by kernel_rfl,rfl,rfl,rfl⟩,_,Tryz.underlying0,rfl⟩
theorem row2:rowOk Tryz.prog 2 ⟨.int .i64,1,8,(.int .i64 0)⟩:=⟨⟨Tryz.t2,by kernel_rfl,rfl,rfl,rfl⟩,_,Tryz.underlying2,rfl⟩
theorem row3:rowOk Tryz.prog 3 ⟨.int .i64,1,8,(.int .i64 0)⟩:=⟨⟨Tryz.t3,by kernel_rfl,rfl,rfl,rfl⟩,_,Tryz.underlying3,rfl⟩
theorem row4:rowOk Tryz.prog 4 ⟨.bool,1,1,(.bool .false)⟩:=⟨⟨Tryz.t4,by kernel_rfl,rfl,rfl,rfl⟩,_,Tryz.underlying4,rfl⟩
theorem row5:rowOk Tryz.prog 5 ⟨.int .u8,1,1,(.int .u8 0)⟩:=⟨⟨Tryz.t5,by kernel_rfl,rfl,rfl,rfl⟩,_,Tryz.underlying5,rfl⟩
theorem row9:rowOk Tryz.prog 9 ⟨.str,1,16,(.string (ByteArray.mk #[]))⟩:=⟨⟨Tryz.t9,by kernel_rfl,rfl,rfl,rfl⟩,_,Tryz.underlying9,rfl⟩
theorem row20:rowOk Tryz.prog 20 ⟨.iface,1,16,.nilIface⟩:=⟨⟨Tryz.t20,by kernel_rfl,rfl,rfl,rfl⟩,_,Tryz.underlying20,⟨_,rfl⟩⟩
theorem row21:rowOk Tryz.prog 21 ⟨.int .i32,1,4,(.int .i32 0)⟩:=⟨⟨Tryz.t21,by kernel_rfl,rfl,rfl,rfl⟩,_,Tryz.underlying21,rfl⟩
theorem row22:rowOk Tryz.prog 22 ⟨.slice 38,1,24,(.slice none 0 0)⟩:=⟨⟨Tryz.t22,by kernel_rfl,rfl,rfl,rfl⟩,_,Tryz.underlying22,rfl⟩
theorem row26:rowOk Tryz.prog 26 ⟨.slice 3,1,24,(.slice none 0 0)⟩:=⟨⟨Tryz.t26,by kernel_rfl,rfl,rfl,rfl⟩,_,Tryz.underlying26,rfl⟩
theorem row28:rowOk Tryz.prog 28 ⟨.tuple [22,4],1,0,(.tuple #[(.slice none 0 0),(.bool .false)])⟩:=⟨⟨Tryz.t28,by kernel_rfl,rfl,rfl,rfl⟩,_,Tryz.underlying28,rfl⟩
theorem row37:rowOk Tryz.prog 37 ⟨.slice 22,1,24,(.slice none 0 0)⟩:=⟨⟨Tryz.t37,by kernel_rfl,rfl,rfl,rfl⟩,_,Tryz.underlying37,rfl⟩
theorem row38:rowOk Tryz.prog 38 ⟨.int .u64,1,8,(.int .u64 0)⟩:=⟨⟨Tryz.t38,by kernel_rfl,rfl,rfl,rfl⟩,_,Tryz.underlying38,rfl⟩
theorem row40:rowOk Tryz.prog 40 ⟨.ptr,1,8,(.pointer none)⟩:=⟨⟨Tryz.t40,by kernel_rfl,rfl,rfl,rfl⟩,_,Tryz.underlying40,⟨47,Tryz.t47,rfl,by kernel_rfl,of_decide_eq_true (by kernel_rfl)⟩⟩
theorem row44:rowOk Tryz.prog 44 ⟨.slice 61,1,24,(.slice none 0 0)⟩:=⟨⟨Tryz.t44,by kernel_rfl,rfl,rfl,rfl⟩,_,Tryz.underlying44,rfl⟩
theorem row45:rowOk Tryz.prog 45 ⟨.slice 61,1,24,(.slice none 0 0)⟩:=⟨⟨Tryz.t45,by kernel_rfl,rfl,rfl,rfl⟩,_,Tryz.underlying45,rfl⟩
theorem row47:rowOk Tryz.prog 47 ⟨.struct [(0,1),(1,1)],2,32,(.agg #[(.bool .false),(.slice none 0 0)])⟩:=⟨⟨Tryz.t47,by kernel_rfl,rfl,rfl,rfl⟩,_,Tryz.underlying47,⟨_,rfl,by kernel_rfl⟩⟩
theorem row49:rowOk Tryz.prog 49 ⟨.tuple [26,26],1,0,(.tuple #[(.slice none 0 0),(.slice none 0 0)])⟩:=⟨⟨Tryz.t49,by kernel_rfl,rfl,rfl,rfl⟩,_,Tryz.underlying49,rfl⟩
theorem row55:rowOk Tryz.prog 55 ⟨.slice 5,1,24,(.slice none 0 0)⟩:=⟨⟨Tryz.t55,by kernel_rfl,rfl,rfl,rfl⟩,_,Tryz.underlying55,rfl⟩
theorem row56:rowOk Tryz.prog 56 ⟨.tuple [26,3],1,0,(.tuple #[(.slice none 0 0),(.int .i64 0)])⟩:=⟨⟨Tryz.t56,by kernel_rfl,rfl,rfl,rfl⟩,_,Tryz.underlying56,rfl⟩
theorem row59:rowOk Tryz.prog 59 ⟨.tuple [40,4],1,0,(.tuple #[(.pointer none),(.bool .false)])⟩:=⟨⟨Tryz.t59,by kernel_rfl,rfl,rfl,rfl⟩,_,Tryz.underlying59,rfl⟩
theorem row61:rowOk Tryz.prog 61 ⟨.int .u64,1,8,(.int .u64 0)⟩:=⟨⟨Tryz.t61,by kernel_rfl,rfl,rfl,rfl⟩,_,Tryz.underlying61,rfl⟩
theorem row71:rowOk Tryz.prog 71 ⟨.ptr,1,8,(.pointer none)⟩:=⟨⟨Tryz.t71,by kernel_rfl,rfl,rfl,rfl⟩,_,Tryz.underlying71,⟨101,Tryz.t101,rfl,by kernel_rfl,of_decide_eq_true (by kernel_rfl)⟩⟩
theorem row80:rowOk Tryz.prog 80 ⟨.float,1,8,(.float .f64 0)⟩:=⟨⟨Tryz.t80,by kernel_rfl,rfl,rfl,rfl⟩,_,Tryz.underlying80,rfl⟩
theorem row83:rowOk Tryz.prog 83 ⟨.ptr,1,8,(.pointer none)⟩:=⟨⟨Tryz.t83,by kernel_rfl,rfl,rfl,rfl⟩,_,Tryz.underlying83,⟨126,Tryz.t126,rfl,by kernel_rfl,of_decide_eq_true (by kernel_rfl)⟩⟩
theorem row85:rowOk Tryz.prog 85 ⟨.tuple [61,3],1,0,(.tuple #[(.int .u64 0),(.int .i64 0)])⟩:=⟨⟨Tryz.t85,by kernel_rfl,rfl,rfl,rfl⟩,_,Tryz.underlying85,rfl⟩
theorem row87:rowOk Tryz.prog 87 ⟨.slice 128,1,24,(.slice none 0 0)⟩:=⟨⟨Tryz.t87,by kernel_rfl,rfl,rfl,rfl⟩,_,Tryz.underlying87,rfl⟩
theorem row93:rowOk Tryz.prog 93 ⟨.iface,1,16,.nilIface⟩:=⟨⟨Tryz.t93,by kernel_rfl,rfl,rfl,rfl⟩,_,Tryz.underlying93,⟨_,rfl⟩⟩
theorem row95:rowOk Tryz.prog 95 ⟨.iface,1,16,.nilIface⟩:=⟨⟨Tryz.t95,by kernel_rfl,rfl,rfl,rfl⟩,_,Tryz.underlying95,⟨_,rfl⟩⟩
theorem row96:rowOk Tryz.prog 96 ⟨.tuple [40,3,95],1,0,(.tuple #[(.pointer none),(.int .i64 0),.nilIface])⟩:=⟨⟨Tryz.t96,by kernel_rfl,rfl,rfl,rfl⟩,_,Tryz.underlying96,rfl⟩
theorem row98:rowOk Tryz.prog 98 ⟨.tuple [5,95],1,0,(.tuple #[(.int .u8 0),.nilIface])⟩:=⟨⟨Tryz.t98,by kernel_rfl,rfl,rfl,rfl⟩,_,Tryz.underlying98,rfl⟩
theorem row101:rowOk Tryz.prog 101 ⟨.struct [(0,1),(1,1),(2,1)],3,32,(.agg #[(.string (ByteArray.mk #[])),(.int .i64 0),(.int .i64 0)])⟩:=⟨⟨Tryz.t101,by kernel_rfl,rfl,rfl,rfl⟩,_,Tryz.underlying101,⟨_,rfl,by kernel_rfl⟩⟩
theorem row103:rowOk Tryz.prog 103 ⟨.int .u64,1,8,(.int .u64 0)⟩:=⟨⟨Tryz.t103,by kernel_rfl,rfl,rfl,rfl⟩,_,Tryz.underlying103,rfl⟩
theorem row107:rowOk Tryz.prog 107 ⟨.ptr,1,8,(.pointer none)⟩:=⟨⟨Tryz.t107,by kernel_rfl,rfl,rfl,rfl⟩,_,Tryz.underlying107,⟨61,Tryz.t61,rfl,by kernel_rfl,of_decide_eq_true (by kernel_rfl)⟩⟩
theorem row112:rowOk Tryz.prog 112 ⟨.tuple [38,4],1,0,(.tuple #[(.int .u64 0),(.bool .false)])⟩:=⟨⟨Tryz.t112,by kernel_rfl,rfl,rfl,rfl⟩,_,Tryz.underlying112,rfl⟩
theorem row117:rowOk Tryz.prog 117 ⟨.tuple [45,45],1,0,(.tuple #[(.slice none 0 0),(.slice none 0 0)])⟩:=⟨⟨Tryz.t117,by kernel_rfl,rfl,rfl,rfl⟩,_,Tryz.underlying117,rfl⟩
theorem row122:rowOk Tryz.prog 122 ⟨.int .u32,1,4,(.int .u32 0)⟩:=⟨⟨Tryz.t122,by kernel_rfl,rfl,rfl,rfl⟩,_,Tryz.underlying122,rfl⟩
theorem row124:rowOk Tryz.prog 124 ⟨.ptr,1,8,(.pointer none)⟩:=⟨⟨Tryz.t124,by kernel_rfl,rfl,rfl,rfl⟩,_,Tryz.underlying124,⟨162,Tryz.t162,rfl,by kernel_rfl,of_decide_eq_true (by kernel_rfl)⟩⟩
theorem row126:rowOk Tryz.prog 126 ⟨.struct [(0,1)],1,8,(.agg #[(.pointer none)])⟩:=⟨⟨Tryz.t126,by kernel_rfl,rfl,rfl,rfl⟩,_,Tryz.underlying126,⟨_,rfl,by kernel_rfl⟩⟩
theorem row128:rowOk Tryz.prog 128 ⟨.struct [(0,1),(1,1),(2,1)],3,40,(.agg #[(.slice none 0 0),(.int .i64 0),(.int .i64 0)])⟩:=⟨⟨Tryz.t128,by kernel_rfl,rfl,rfl,rfl⟩,_,Tryz.underlying128,⟨_,rfl,by kernel_rfl⟩⟩
theorem row132:rowOk Tryz.prog 132 ⟨.tuple [45,61],1,0,(.tuple #[(.slice none 0 0),(.int .u64 0)])⟩:=⟨⟨Tryz.t132,by kernel_rfl,rfl,rfl,rfl⟩,_,Tryz.underlying132,rfl⟩
theorem row134:rowOk Tryz.prog 134 ⟨.tuple [4,95],1,0,(.tuple #[(.bool .false),.nilIface])⟩:=⟨⟨Tryz.t134,by kernel_rfl,rfl,rfl,rfl⟩,_,Tryz.underlying134,rfl⟩
theorem row136:rowOk Tryz.prog 136 ⟨.tuple [45,3,3,95],1,0,(.tuple #[(.slice none 0 0),(.int .i64 0),(.int .i64 0),.nilIface])⟩:=⟨⟨Tryz.t136,by kernel_rfl,rfl,rfl,rfl⟩,_,Tryz.underlying136,rfl⟩
theorem row138:rowOk Tryz.prog 138 ⟨.tuple [40,40],1,0,(.tuple #[(.pointer none),(.pointer none)])⟩:=⟨⟨Tryz.t138,by kernel_rfl,rfl,rfl,rfl⟩,_,Tryz.underlying138,rfl⟩
theorem row143:rowOk Tryz.prog 143 ⟨.arr 16 45,16,384,(.agg #[(.slice none 0 0),(.slice none 0 0),(.slice none 0 0),(.slice none 0 0),(.slice none 0 0),(.slice none 0 0),(.slice none 0 0),(.slice none 0 0),(.slice none 0 0),(.slice none 0 0),(.slice none 0 0),(.slice none 0 0),(.slice none 0 0),(.slice none 0 0),(.slice none 0 0),(.slice none 0 0)])⟩:=⟨⟨Tryz.t143,by kernel_rfl,rfl,rfl,rfl⟩,_,Tryz.underlying143,rfl⟩
theorem row145:rowOk Tryz.prog 145 ⟨.ptr,1,8,(.pointer none)⟩:=⟨⟨Tryz.t145,by kernel_rfl,rfl,rfl,rfl⟩,_,Tryz.underlying145,⟨45,Tryz.t45,rfl,by kernel_rfl,of_decide_eq_true (by kernel_rfl)⟩⟩
theorem row148:rowOk Tryz.prog 148 ⟨.tuple [61,61],1,0,(.tuple #[(.int .u64 0),(.int .u64 0)])⟩:=⟨⟨Tryz.t148,by kernel_rfl,rfl,rfl,rfl⟩,_,Tryz.underlying148,rfl⟩
theorem row155:rowOk Tryz.prog 155 ⟨.tuple [38,38],1,0,(.tuple #[(.int .u64 0),(.int .u64 0)])⟩:=⟨⟨Tryz.t155,by kernel_rfl,rfl,rfl,rfl⟩,_,Tryz.underlying155,rfl⟩
theorem row157:rowOk Tryz.prog 157 ⟨.tuple [80,3],1,0,(.tuple #[(.float .f64 0),(.int .i64 0)])⟩:=⟨⟨Tryz.t157,by kernel_rfl,rfl,rfl,rfl⟩,_,Tryz.underlying157,rfl⟩
theorem row159:rowOk Tryz.prog 159 ⟨.arr 32 5,32,32,(.agg #[(.int .u8 0),(.int .u8 0),(.int .u8 0),(.int .u8 0),(.int .u8 0),(.int .u8 0),(.int .u8 0),(.int .u8 0),(.int .u8 0),(.int .u8 0),(.int .u8 0),(.int .u8 0),(.int .u8 0),(.int .u8 0),(.int .u8 0),(.int .u8 0),(.int .u8 0),(.int .u8 0),(.int .u8 0),(.int .u8 0),(.int .u8 0),(.int .u8 0),(.int .u8 0),(.int .u8 0),(.int .u8 0),(.int .u8 0),(.int .u8 0),(.int .u8 0),(.int .u8 0),(.int .u8 0),(.int .u8 0),(.int .u8 0)])⟩:=⟨⟨Tryz.t159,by kernel_rfl,rfl,rfl,rfl⟩,_,Tryz.underlying159,rfl⟩
theorem row160:rowOk Tryz.prog 160 ⟨.arr 64 5,64,64,(.agg #[(.int .u8 0),(.int .u8 0),(.int .u8 0),(.int .u8 0),(.int .u8 0),(.int .u8 0),(.int .u8 0),(.int .u8 0),(.int .u8 0),(.int .u8 0),(.int .u8 0),(.int .u8 0),(.int .u8 0),(.int .u8 0),(.int .u8 0),(.int .u8 0),(.int .u8 0),(.int .u8 0),(.int .u8 0),(.int .u8 0),(.int .u8 0),(.int .u8 0),(.int .u8 0),(.int .u8 0),(.int .u8 0),(.int .u8 0),(.int .u8 0),(.int .u8 0),(.int .u8 0),(.int .u8 0),(.int .u8 0),(.int .u8 0),(.int .u8 0),(.int .u8 0),(.int .u8 0),(.int .u8 0),(.int .u8 0),(.int .u8 0),(.int .u8 0),(.int .u8 0),(.int .u8 0),(.int .u8 0),(.int .u8 0),(.int .u8 0),(.int .u8 0),(.int .u8 0),(.int .u8 0),(.int .u8 0),(.int .u8 0),(.int .u8 0),(.int .u8 0),(.int .u8 0),(.int .u8 0),(.int .u8 0),(.int .u8 0),(.int .u8 0),(.int .u8 0),(.int .u8 0),(.int .u8 0),(.int .u8 0),(.int .u8 0),(.int .u8 0),(.int .u8 0),(.int .u8 0)])⟩:=⟨⟨Tryz.t160,by kernel_rfl,rfl,rfl,rfl⟩,_,Tryz.underlying160,rfl⟩
theorem row162:rowOk Tryz.prog 162 ⟨.struct [(0,1)],1,24,(.agg #[(.slice none 0 0)])⟩:=⟨⟨Tryz.t162,by kernel_rfl,rfl,rfl,rfl⟩,_,Tryz.underlying162,⟨_,rfl,by kernel_rfl⟩⟩
theorem row167:rowOk Tryz.prog 167 ⟨.tuple [61,61,61,61,4],1,0,(.tuple #[(.int .u64 0),(.int .u64 0),(.int .u64 0),(.int .u64 0),(.bool .false)])⟩:=⟨⟨Tryz.t167,by kernel_rfl,rfl,rfl,rfl⟩,_,Tryz.underlying167,rfl⟩
theorem row170:rowOk Tryz.prog 170 ⟨.tuple [40,40,40,40,40],1,0,(.tuple #[(.pointer none),(.pointer none),(.pointer none),(.pointer none),(.pointer none)])⟩:=⟨⟨Tryz.t170,by kernel_rfl,rfl,rfl,rfl⟩,_,Tryz.underlying170,rfl⟩
theorem row178:rowOk Tryz.prog 178 ⟨.tuple [122,122],1,0,(.tuple #[(.int .u32 0),(.int .u32 0)])⟩:=⟨⟨Tryz.t178,by kernel_rfl,rfl,rfl,rfl⟩,_,Tryz.underlying178,rfl⟩
theorem row180:rowOk Tryz.prog 180 ⟨.tuple [103,103],1,0,(.tuple #[(.int .u64 0),(.int .u64 0)])⟩:=⟨⟨Tryz.t180,by kernel_rfl,rfl,rfl,rfl⟩,_,Tryz.underlying180,rfl⟩
theorem row196:rowOk Tryz.prog 196 ⟨.ptr,1,8,(.pointer none)⟩:=⟨⟨Tryz.t196,by kernel_rfl,rfl,rfl,rfl⟩,_,Tryz.underlying196,⟨213,Tryz.t213,rfl,by kernel_rfl,of_decide_eq_true (by kernel_rfl)⟩⟩
theorem row213:rowOk Tryz.prog 213 ⟨.struct [(0,1)],1,16,(.agg #[(.string (ByteArray.mk #[]))])⟩:=⟨⟨Tryz.t213,by kernel_rfl,rfl,rfl,rfl⟩,_,Tryz.underlying213,⟨_,rfl,by kernel_rfl⟩⟩
theorem all_cons {α:Type} {Q:α→Prop} {a:α} {l:List α} (h:Q a) (hl:∀ p∈l,Q p):∀ p∈a :: l,Q p:=by
 intro p hp
 cases hp with
 | head=>exact h
 | tail _ hp=>exact hl p hp
theorem all_nil {α:Type} {Q:α→Prop}:∀ p∈([]:List α),Q p:=fun p hp=>by cases hp
theorem tc {a:Nat × TRow} {l:List (Nat × TRow)} (h:rowOk Tryz.prog a.1 a.2) (k:∀ p∈l,rowOk Tryz.prog p.1 p.2):∀ p∈a :: l,rowOk Tryz.prog p.1 p.2:=all_cons (Q:=fun p:Nat × TRow=>rowOk Tryz.prog p.1 p.2) h k
theorem fc {a:Nat} {l:List Nat} (h:∀ (args:Array Value) w,(callFunc a args).run Tryz.prog w=.ok (.enter a args) w) (k:∀ f∈l,∀ (args:Array Value) w,(callFunc f args).run Tryz.prog w=.ok (.enter f args) w):∀ f∈a :: l,∀ (args:Array Value) w,(callFunc f args).run Tryz.prog w=.ok (.enter f args) w:=all_cons (Q:=fun f:Nat=>∀ (args:Array Value) w,(callFunc f args).run Tryz.prog w=.ok (.enter f args) w) h k
theorem tabTy:∀ p∈tyRows,rowOk Tryz.prog p.1 p.2 :=
 (tc row0
 (tc row2
 (tc row3
 (tc row4
 (tc row5
 (tc row9
 (tc row20
 (tc row21
 (tc row22
 (tc row26
 (tc row28
 (tc row37
 (tc row38
 (tc row40
 (tc row44
 (tc row45
 (tc row47
 (tc row49
 (tc row55
 (tc row56
 (tc row59
 (tc row61
 (tc row71
 (tc row80
 (tc row83
 (tc row85
 (tc row87
 (tc row93
 (tc row95
 (tc row96
 (tc row98
 (tc row101
 (tc row103
 (tc row107
 (tc row112
 (tc row117
 (tc row122
 (tc row124
 (tc row126
 (tc row128
 (tc row132
 (tc row134
 (tc row136
 (tc row138
 (tc row143
 (tc row145
 (tc row148
 (tc row155
 (tc row157
 (tc row159
 (tc row160
 (tc row162
 (tc row167
 (tc row170
 (tc row178
 (tc row180
 (tc row196
 (tc row213 all_nil))))))))))))))))))))))))))))))))))))))))))))))))))))))))))
theorem tabFn:∀ f∈fnIds,∀ (args:Array Value) w,(callFunc f args).run Tryz.prog w=.ok (.enter f args) w :=
 (fc Tryz.call3
 (fc Tryz.call4
 (fc Tryz.call5
 (fc Tryz.call6
 (fc Tryz.call7
 (fc Tryz.call8
 (fc Tryz.call9
 (fc Tryz.call10
 (fc Tryz.call11
 (fc Tryz.call12
 (fc Tryz.call13
 (fc Tryz.call14
 (fc Tryz.call15
 (fc Tryz.call16
 (fc Tryz.call17
 (fc Tryz.call18
 (fc Tryz.call19
 (fc Tryz.call20
 (fc Tryz.call21
 (fc Tryz.call22
 (fc Tryz.call23
 (fc Tryz.call24
 (fc Tryz.call25
 (fc Tryz.call26
 (fc Tryz.call27
 (fc Tryz.call28
 (fc Tryz.call29
 (fc Tryz.call30
 (fc Tryz.call31
 (fc Tryz.call32
 (fc Tryz.call33
 (fc Tryz.call34
 (fc Tryz.call35
 (fc Tryz.call36
 (fc Tryz.call37
 (fc Tryz.call38
 (fc Tryz.call39
 (fc Tryz.call40
 (fc Tryz.call41
 (fc Tryz.call42
 (fc Tryz.call43
 (fc Tryz.call44
 (fc Tryz.call45
 (fc Tryz.call46
 (fc Tryz.call47
 (fc Tryz.call48
 (fc Tryz.call49
 (fc Tryz.call50
 (fc Tryz.call51
 (fc Tryz.call52
 (fc Tryz.call53
 (fc Tryz.call54
 (fc Tryz.call55
 (fc Tryz.call56
 (fc Tryz.call57
 (fc Tryz.call58
 (fc Tryz.call59
 (fc Tryz.call60
 (fc Tryz.call61
 (fc Tryz.call62
 (fc Tryz.call63
 (fc Tryz.call64
 (fc Tryz.call65
 (fc Tryz.call66
 (fc Tryz.call67
 (fc Tryz.call68
 (fc Tryz.call69
 (fc Tryz.call70
 (fc Tryz.call71
 (fc Tryz.call72
 (fc Tryz.call73
 (fc Tryz.call74
 (fc Tryz.call75
 (fc Tryz.call76
 (fc Tryz.call77
 (fc Tryz.call78
 (fc Tryz.call79
 (fc Tryz.call80
 (fc Tryz.call81
 (fc Tryz.call82
 (fc Tryz.call83
 (fc Tryz.call84
 (fc Tryz.call85
 (fc Tryz.call86
 (fc Tryz.call87
 (fc Tryz.call88
 (fc Tryz.call89
 (fc Tryz.call90
 (fc Tryz.call91
 (fc Tryz.call92
 (fc Tryz.call93
 (fc Tryz.call94
 (fc Tryz.call95
 (fc Tryz.call96
 (fc Tryz.call97
 (fc Tryz.call98
 (fc Tryz.call99
 (fc Tryz.call100
 (fc Tryz.call101
 (fc Tryz.call102
 (fc Tryz.call103
 (fc Tryz.call104
 (fc Tryz.call105
 (fc Tryz.call106
 (fc Tryz.call107
 (fc Tryz.call108
 (fc Tryz.call109
 (fc Tryz.call110
 (fc Tryz.call111
 (fc Tryz.call112
 (fc Tryz.call113
 (fc Tryz.call114
 (fc Tryz.call115
 (fc Tryz.call116
 (fc Tryz.call117
 (fc Tryz.call118
 (fc Tryz.call119
 (fc Tryz.call120
 (fc Tryz.call121
 (fc Tryz.call122
 (fc Tryz.call123
 (fc Tryz.call124
 (fc Tryz.call125
 (fc Tryz.call126
 (fc Tryz.call127
 (fc Tryz.call128
 (fc Tryz.call129
 (fc Tryz.call130
 (fc Tryz.call131
 (fc Tryz.call132
 (fc Tryz.call133
 (fc Tryz.call134
 (fc Tryz.call135
 (fc Tryz.call136
 (fc Tryz.call137
 (fc Tryz.call138
 (fc Tryz.call139
 (fc Tryz.call140
 (fc Tryz.call141
 (fc Tryz.call142
 (fc Tryz.call143
 (fc Tryz.call144
 (fc Tryz.call145
 (fc Tryz.call146
 (fc Tryz.call147
 (fc Tryz.call148
 (fc Tryz.call149
 (fc Tryz.call150
 (fc Tryz.call151
 (fc Tryz.call152
 (fc Tryz.call154
 (fc Tryz.call155
 (fc Tryz.call157
 (fc Tryz.call158
 (fc Tryz.call159
 (fc Tryz.call160
 (fc Tryz.call161
 (fc Tryz.call162
 (fc Tryz.call163
 (fc Tryz.call164
 (fc Tryz.call165
 (fc Tryz.call166
 (fc Tryz.call167
 (fc Tryz.call168
 (fc Tryz.call169
 (fc Tryz.call170
 (fc Tryz.call171
 (fc Tryz.call172
 (fc Tryz.call173
 (fc Tryz.call174
 (fc Tryz.call177
 (fc Tryz.call178
 (fc Tryz.call179
 (fc Tryz.call180
 (fc Tryz.call182
 (fc Tryz.call183
 (fc Tryz.call203
 (fc Tryz.call204
 (fc Tryz.call205 all_nil)))))))))))))))))))))))))))))))))))))))))))))))))))))))))))))))))))))))))))))))))))))))))))))))))))))))))))))))))))))))))))))))))))))))))))))))))))))))))))))))))))))))))))))))))))
theorem tabOk:TabOk Tryz.prog tab:=⟨tyLook_spec tyRows tabTy,fnIn_spec fnIds tabFn⟩
theorem mixed:Tryz.prog.follows .mixedOrders=true:=by kernel_rfl
abbrev eS (t:Nat) (a:Option Addr) (l c:Nat):Nat × Value:=(t,.slice a l c)
abbrev eI (t:Nat) (x:Int):Nat × Value:=(t,.int .i64 x)
abbrev eU (t:Nat) (x:Int):Nat × Value:=(t,.int .u64 x)
abbrev eP (t:Nat) (p:Option Addr):Nat × Value:=(t,.pointer p)
abbrev eB (t:Nat) (b:Bool):Nat × Value:=(t,.bool b)
abbrev Cl:=Calls Tryz.prog
abbrev Wd (N:Nat) (p:Code) (l:List (Nat × Value)) (ds:List Deferred) (w:World) (K:Kont):Prop:=∀ B,W Tryz.prog N p (E l B ds) w K
abbrev Kd (K:Kont) (x:Exit) (l:List (Nat × Value)) (ds:List Deferred) (w:World):Prop:=∀ B,K x (E l B ds) w
abbrev VP:=(Nat→Value)→List Deferred→World→Kont→Prop
abbrev VE (N:Nat) (kt:List (Nat × List Nat)) (p:Code) (l:List (Nat × Value)) (v:VP) (L:List Nat):Prop:=∀ B ds w K,v B ds w K=vc Tryz.prog tab kt N p (E l B ds) w K (pruneK L K)
abbrev VT (N:Nat) (p:Code) (l:List (Nat × Value)) (v:VP):Prop:=∀ {e:Env} {w:World} {K:Kont},agree e l→(∀ B,v B e.defers w K)→W Tryz.prog N p e w K
abbrev VZ (N:Nat) (p:Code) (l:List (Nat × Value)) (v:VP):Prop:=∀ (w:World) (K:Kont),(∀ B,v B [] w K)→∀ B,W Tryz.prog N p (E l B []) w K
abbrev VCl (f:FuncId) (rs:List ResultVar) (args:Array Value) (v:VP):Prop:=∀ (w:World) (R:Value→World→Prop),(∀ B,v B [] w (retK Tryz.prog rs R))→Calls Tryz.prog f args w fun x w'=>∃ v,x=.returned v∧R v w'
theorem tw {N:Nat} {p:Code} {l:List (Nat × Value)} {v:VP} (kt:List (Nat × List Nat)) (L:List Nat) (h:VE N kt p l v L):VT N p l v:=fun ha k=>W_agree _ ha fun B=>vc_sound tabOk mixed _ _ _ _ _ (KLe.prune _ _) (Eq.mp (h B _ _ _) (k B))
theorem tz {N:Nat} {p:Code} {l:List (Nat × Value)} {v:VP} (kt:List (Nat × List Nat)) (L:List Nat) (h:VE N kt p l v L):VZ N p l v:=fun _ _ k B=>vc_sound tabOk mixed _ _ _ _ _ (KLe.prune _ _) (Eq.mp (h B _ _ _) (k B))
theorem cz {N:Nat} {f:FuncId} {fn:Func} {c:Code} {rs:List ResultVar} {args:List Value} {v:VP} (hf:Tryz.prog.funcs[f]?=some fn) (hb:fn.body=some c) (hN:fn.ntmps=N) (hrs:fn.results=rs.toArray) (hl:decide (args.length≤N)=true) (h:VZ N c (argEnv 0 args) v):VCl f rs args.toArray v:=fun _ _ k=>calls_W hf hb hN hrs (of_decide_eq_true hl) (h _ _ k)
def bitsOf:Nat→Nat→List Nat
 | 0,_=>[]
 | k+1,n=>n/2^k%2 :: bitsOf k n
abbrev sb (k n:Nat) (c:Code):Code:=sub (bitsOf k n) c
end Go.Proofs.YtlkjiiibmfpbcaaGreatDoor
